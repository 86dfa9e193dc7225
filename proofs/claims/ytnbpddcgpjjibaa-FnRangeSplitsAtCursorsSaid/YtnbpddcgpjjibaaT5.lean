/-
  Contracts of the helpers of n025_15: the elision table, the count of visible bytes, the n-th visible one, the built lexer. Conditions: the arguments read as slices of at most 65536 bytes.
-/
import Derived.Test.YtnbpddcgpjjibaaT4
import Derived.Test.YtnbpddcgpjjibaaP5
import Derived.Deep.MidRow
import Derived.Deep.AppendLies
namespace Go.Proofs.Ytnbpddcgpjjibaa
open Go.RowKit
set_option linter.unusedSimpArgs false
set_option linter.unusedVariables false

/-- The table of 256 times false. -/
def tabZ : Array Value := (List.replicate 256 (Value.bool false)).toArray
theorem tabZ_is (z : List Int) : tabZ = (tabL z 0).toArray := by rw [tabL_zero]; rfl
theorem zeroTab (w : World) : (zeroValue 24).run Try.prog w = .ok (.agg tabZ) w := by kernel_rfl
theorem u8_wf {x : Int} (h : (Lit.int .u8 x).wf = true) : 0 ≤ x ∧ x ≤ 255 := by
  have a : IntKind.u8.min = 0 := rfl
  have b : IntKind.u8.max = 255 := rfl
  simp [Lit.wf] at h
  omega
theorem u8_nat {w : World} {A : Option Addr} {n : Nat} {z : List Int} (h : Ints .u8 w A n z) {i : Nat} (hi : i < n) : ∃ B : Nat, B < 256 ∧ z.getD i 0 = (B : Int) := by
  have := u8_wf (h.wf hi)
  exact ⟨(z.getD i 0).toNat, by omega, by omega⟩
theorem u8_ne {w : World} {A : Option Addr} {n : Nat} {z : List Int} (h : Ints .u8 w A n z) : ∀ x ∈ z, x ≠ -1 := fun x hx => by
  have := u8_wf (h.2.2.1 x hx)
  omega
theorem u8_i64 {w : World} {A : Option Addr} {n : Nat} {z : List Int} (h : Ints .u8 w A n z) : ∀ x ∈ z, (Lit.int .i64 x).wf = true := fun x hx => by
  have := u8_wf (h.2.2.1 x hx)
  have a : IntKind.i64.min = -9223372036854775808 := rfl
  have b : IntKind.i64.max = 9223372036854775807 := rfl
  simp [Lit.wf]
  omega
theorem Blk.setCells {g : Nat} {t : TypeId} : ∀ (vs : List Value) (o : Nat) (w : World) (cs : Array Value), Blk w g t cs → ∃ cs', Blk (w.setCells g o vs) g t cs' ∧ cs'.size = cs.size
  | [], _, w, cs, h => ⟨cs, h, rfl⟩
  | v :: r, o, w, cs, h => by
    obtain ⟨cs', h1, h2⟩ := Blk.setCells r (o + 1) _ _ (h.set o v)
    exact ⟨cs', h1, by simpa using h2⟩
theorem Blk.setAll {g : Nat} {t : TypeId} {w : World} {cs : Array Value} (vs : Array Value) (h : Blk w g t cs) (hs : cs.size = vs.size) : Blk (w.setCells g 0 vs.toList) g t vs := by
  obtain ⟨cs', h1, h2⟩ := Blk.setCells vs.toList 0 w cs h
  have e : cs' = vs := by
    apply Array.ext_getElem?
    intro i
    rw [← h1.cell i]
    rcases Nat.lt_or_ge i vs.size with hi | hi
    · have := World.cell?_setCells_in g vs.toList 0 w (fun j hj => by rw [Nat.zero_add, h.cell j, Array.getElem?_eq_getElem (by simp at hj; omega)]; rfl) i (by simpa using hi)
      rw [Nat.zero_add] at this
      rw [this, Array.getElem?_eq_getElem hi]; simp
    · rw [h1.cell i, Array.getElem?_eq_none (by omega), Array.getElem?_eq_none hi]
  rw [e] at h1; exact h1
theorem Blk.there {g : Nat} {t : TypeId} {w : World} {cs : Array Value} (h : Blk w g t cs) {n : Nat} (hn : n ≤ cs.size) : w.there g 0 n := fun j hj => by
  rw [Nat.zero_add, h.cell j, h.frozen j, Array.getElem?_eq_getElem (by omega)]
  exact ⟨rfl, rfl⟩
theorem below_setCells {B : Nat} {a w : World} (h : Below B a w) {g : Nat} (hg : B ≤ g) : ∀ (vs : List Value) (o : Nat), Below B a (w.setCells g o vs) := by
  intro vs
  induction vs generalizing w with
  | nil => intro o; exact h
  | cons v r ih => intro o; exact ih (h.setCell (p := ⟨g, o, none⟩) hg v) (o + 1)
theorem tabInfo : (Try.prog.info? 24).map (·.size) = some 256 := by kernel_rfl
theorem tabA_one (z : List Int) : (tabA z).all (·.oneCell') = true := by
  apply all_oneCell_toArray
  intro v hv
  unfold tabL at hv
  obtain ⟨i, _, rfl⟩ := List.mem_map.1 hv
  rfl

set_option maxHeartbeats 1000000 in
set_option maxRecDepth 100000 in
theorem tab_any (A0 : Option Addr) (n0 c0 : Nat) (z0 : List Int) (w : World) (ht : Ints .u8 w A0 n0 z0) (h0 : n0 ≤ 65536) :
    Calls Try.prog 16 #[.slice A0 n0 c0] w fun e w' => e = .returned (.agg (tabA z0)) ∧ Below w.heap.size w w' := by
  have hz := zeroTab
  have hl0 := ht.1
  have HL0 := Lib.hid hl0; clear hl0
  have HT := Lib.hid ht
  have hZ := tabZ_is z0
  generalize tabZ = Z at hz hZ
  have HZ := Lib.hid hZ; clear hZ
  rcases ht.split with e0 | ⟨b0, o0, rfl, hc0⟩
  all_goals
    clear ht
    go_enter Try.func16, Try.ntmps16
    go_wp2_with fail
    clear hz
    go_loopg [4] n0 (fun k i wr => ∃ j : Nat, k = n0 - j ∧ j ≤ n0 ∧ i = .int .i64 j ∧ Blk wr w.heap.size 24 Z ∧ Blk wr (w.heap.size + 1) 24 (tabL z0 j).toArray ∧ Below w.heap.size w wr)
    case atStart =>
      refine ⟨0, rfl, Nat.zero_le _, rfl, (Blk.new _ _ _).alloc _, ?_, ((Below.refl _ _).alloc (Nat.le_refl _) _).alloc (by simp) _⟩
      rw [← HZ.out]
      have := Blk.new (w.alloc (.cells Z 24)) 24 Z
      simpa using this
    case round =>
      obtain ⟨j, hk, hj, rfl, hZb, hTb, hbel⟩ := hrel
      have KK := Lib.hid hk; clear hk
      by_cases hlt : j < n0
      · first
          | (exfalso; omega)
          | (obtain ⟨B, hB, hBz⟩ := u8_nat HT.out hlt
             have hcj := (hbel.cell (p := ⟨b0, o0 + j, none⟩) (World.block_lt_of_cell? _ _ (hc0.out j hlt))).trans (hc0.out j hlt)
             rw [hBz] at hcj
             have HBZ := Lib.hid hBz; clear hBz
             have hi0 : (0 : Int) ≤ (B : Int) := by omega
             have hi1 : (B : Int) < 256 := by omega
             have hcb := hTb.cell B
             rw [List.getElem?_toArray, tabL_at _ _ _ hB] at hcb
             have hfb := hTb.frozen B
             go_wp2_with fail
             go_roundg (n0 - (j + 1))
             case measure => rw [KK.out]; omega
             case rel =>
               refine ⟨j + 1, rfl, by omega, by go_num, hZb.far (p := ⟨w.heap.size + 1, B, none⟩) (by simp) _, ?_, hbel.setCell (p := ⟨w.heap.size + 1, B, none⟩) (by simp) _⟩
               have := hTb.set B (.bool true)
               rw [List.setIfInBounds_toArray, tabL_set z0 j B (by rw [HL0.out]; exact hlt) HBZ.out] at this
               exact this)
      · have hjn : j = z0.length := by rw [HL0.out]; omega
        have hTb' : Blk wr (w.heap.size + 1) 24 (tabA z0) := by rw [hjn] at hTb; exact hTb
        have hsz := tabA_size z0
        have hone := tabA_one z0
        have hzs : Z.size = (tabA z0).size := by rw [HZ.out, hsz]; simp [tabL_length]
        have hinf : (Try.prog.info? 24).map (·.size) = some (tabA z0).size := by rw [hsz]; exact tabInfo
        have hres := fun (a : Array Value) (h : a.getD 2 undef = .pointer (some ⟨w.heap.size, 0, none⟩)) => results_cell_row (P := Try.prog) (fn := Try.f16) (p := 2) (ty := 24) rfl a _ w.heap.size _ _ _ _ h (hZb.setAll (tabA z0) hzs) Try.underlying24 rfl hinf
        have hth := hZb.there (n := (tabA z0).size) (by omega)
        have HR := Lib.hid hres; clear hres
        have HTH := Lib.hid hth; clear hth
        have HI := Lib.hid hinf; clear hinf
        have HO := Lib.hid hone; clear hone
        have HZS := Lib.hid hzs; clear hzs hsz hjn hTb
        have HTB := Lib.hid hTb'; clear hTb'
        obtain ⟨C, hC⟩ : ∃ C, C = tabA z0 := ⟨_, rfl⟩
        rw [← hC] at HR HTH HI HO HTB
        have HC := Lib.hid hC; clear hC
        go_wp2_with (first
          | (refine wpList_load_row (by rfl) _ _ (by rfl) (w.heap.size + 1) (by rfl) _ C _ _ HTB.out Try.underlying24 (by rfl) HI.out ?_)
          | (refine wpList_store_mid (by rfl) _ _ _ (by rfl) w.heap.size 0 C (by rfl) (by rfl) HTH.out HI.out HO.out ?_))
        exact bodyPost_ret (v := .agg C) (HR.out _ rfl) rfl ⟨by rw [HC.out], below_setCells hbel (Nat.le_refl _) _ _⟩

/-! ### countVisible, nthVisible, minInt -/
theorem tab_cell {w : World} {tg : Nat} {z : List Int} (h : Blk w tg 24 (tabA z)) {B : Nat} (hB : B < 256) : w.cell? ⟨tg, B, none⟩ = some (.bool (inS z B)) := (h.cell B).trans (tabA_at z B hB)
set_option maxHeartbeats 1000000 in
set_option maxRecDepth 100000 in
theorem count_any (A0 : Option Addr) (n0 c0 : Nat) (z0 z1 : List Int) (w : World) (tg : Nat) (ht : Ints .u8 w A0 n0 z0) (h0 : n0 ≤ 65536) (hT : Blk w tg 24 (tabA z1)) :
    Calls Try.prog 17 #[.slice A0 n0 c0, .pointer (some ⟨tg, 0, none⟩)] w fun e w' => e = .returned (.int .i64 (PL.cnt (inS z1) (types (t4 z0)) n0 : Nat)) ∧ ∃ q, w' = w.drewN q := by
  have hl0 := ht.1
  have HL0 := Lib.hid hl0; clear hl0
  have HT := Lib.hid ht
  have HTB := Lib.hid hT; clear hT
  rcases ht.split with e0 | ⟨b0, o0, rfl, hc0⟩
  all_goals
    clear ht
    go_enter Try.func17, Try.ntmps17
    go_wp2_with fail
    go_loopg [5, 6] n0 (fun k c i wr => ∃ j : Nat, k = n0 - j ∧ j ≤ n0 ∧ i = .int .i64 j ∧ c = .int .i64 (PL.cnt (inS z1) (types (t4 z0)) j : Nat) ∧ ∃ q, wr = w.drewN q)
    case atStart => exact ⟨0, rfl, Nat.zero_le _, rfl, rfl, 0, rfl⟩
    case round =>
      obtain ⟨j, hk, hj, rfl, rfl, q, hq⟩ := hrel
      have KK := Lib.hid hk; clear hk
      by_cases hlt : j < n0
      · first
          | (exfalso; omega)
          | (obtain ⟨B, hB, hBz⟩ := u8_nat HT.out hlt
             have hcj : wr.cell? ⟨b0, o0 + j, none⟩ = some (.int .u8 (z0.getD j 0)) := by rw [hq]; exact hc0.out j hlt
             have hcb : wr.cell? ⟨tg, B, none⟩ = some (.bool (inS z1 B)) := by rw [hq]; exact tab_cell HTB.out hB
             have hvj := t4_vis (inS z1) z0 j (by rw [HL0.out]; exact hlt) (by rw [hBz]; omega)
             rw [hBz] at hcj hvj
             have HQ := Lib.hid hq; clear hq
             have HV := Lib.hid hvj; clear hvj hBz
             have hi0 : (0 : Int) ≤ (B : Int) := by omega
             have hi1 : (B : Int) < 256 := by omega
             have hj0 : (0 : Int) ≤ (j : Int) := by omega
             have hj1 : (j : Int) < (n0 : Int) := by omega
             have hcn := PL.cnt_le (S := inS z1) (T := types (t4 z0)) j
             have hcs : PL.cnt (inS z1) (types (t4 z0)) (j + 1) = PL.cnt (inS z1) (types (t4 z0)) j + (if inS z1 B then 0 else 1) := by
               rw [cnt_succ, HV.out]; cases inS z1 B <;> rfl
             have HCS := Lib.hid hcs; clear hcs
             cases hS : inS z1 B
             all_goals
               rw [hS] at hcb
               have HS := Lib.hid hS; clear hS
               go_wp2_with fail
               go_quiet (fail)
               go_wp2_with fail
               go_roundg (n0 - (j + 1))
               case measure => rw [KK.out]; omega
               case rel => exact ⟨j + 1, rfl, by omega, by go_num, by rw [HCS.out, HS.out]; go_num, _, by rw [HQ.out, World.drewN_drewN]⟩)
      · obtain rfl : n0 = j := by omega
        go_wp2_with fail
        go_ret
        exact ⟨rfl, q, rfl⟩

/-- What nthVisible finds. -/
def Nth (S : Int → Bool) (T : List Int) (n : Nat) (J : Int) (v : Nat) : Prop := (v < n ∧ PL.vis S T v = true ∧ (PL.cnt S T v : Int) + 1 = J) ∨ (v = n ∧ (PL.cnt S T n : Int) < J)
def NthPost (w : World) (S : Int → Bool) (T : List Int) (n : Nat) (J : Int) (e : Ending) (w' : World) : Prop := ∃ v : Nat, e = .returned (.int .i64 v) ∧ Nth S T n J v ∧ ∃ q, w' = w.drewN q
set_option maxHeartbeats 1000000 in
set_option maxRecDepth 100000 in
theorem nth_any (A0 : Option Addr) (n0 c0 : Nat) (z0 z1 : List Int) (w : World) (tg : Nat) (J : Int) (ht : Ints .u8 w A0 n0 z0) (h0 : n0 ≤ 65536) (hT : Blk w tg 24 (tabA z1)) (hJ : 0 < J) :
    Calls Try.prog 21 #[.slice A0 n0 c0, .pointer (some ⟨tg, 0, none⟩), .int .i64 J] w (NthPost w (inS z1) (types (t4 z0)) n0 J) := by
  have hl0 := ht.1
  have HL0 := Lib.hid hl0; clear hl0
  have HT := Lib.hid ht
  have HTB := Lib.hid hT; clear hT
  rcases ht.split with e0 | ⟨b0, o0, rfl, hc0⟩
  all_goals
    clear ht
    go_enter Try.func21, Try.ntmps21
    go_wp2_with fail
    go_loopg [7, 8] n0 (fun k c i wr => ∃ j : Nat, k = n0 - j ∧ j ≤ n0 ∧ i = .int .i64 j ∧ c = .int .i64 (PL.cnt (inS z1) (types (t4 z0)) j : Nat) ∧ (PL.cnt (inS z1) (types (t4 z0)) j : Int) < J ∧ ∃ q, wr = w.drewN q)
    case atStart => exact ⟨0, rfl, Nat.zero_le _, rfl, rfl, hJ, 0, rfl⟩
    case round =>
      obtain ⟨j, hk, hj, rfl, rfl, hcJ, q, hq⟩ := hrel
      have KK := Lib.hid hk; clear hk
      by_cases hlt : j < n0
      · first
          | (exfalso; omega)
          | (obtain ⟨B, hB, hBz⟩ := u8_nat HT.out hlt
             have hcj : wr.cell? ⟨b0, o0 + j, none⟩ = some (.int .u8 (z0.getD j 0)) := by rw [hq]; exact hc0.out j hlt
             have hcb : wr.cell? ⟨tg, B, none⟩ = some (.bool (inS z1 B)) := by rw [hq]; exact tab_cell HTB.out hB
             have hvj := t4_vis (inS z1) z0 j (by rw [HL0.out]; exact hlt) (by rw [hBz]; omega)
             rw [hBz] at hcj hvj
             have HQ := Lib.hid hq; clear hq
             have HV := Lib.hid hvj; clear hvj hBz
             have hi0 : (0 : Int) ≤ (B : Int) := by omega
             have hi1 : (B : Int) < 256 := by omega
             have hj0 : (0 : Int) ≤ (j : Int) := by omega
             have hj1 : (j : Int) < (n0 : Int) := by omega
             have hcn := PL.cnt_le (S := inS z1) (T := types (t4 z0)) j
             have hcs : PL.cnt (inS z1) (types (t4 z0)) (j + 1) = PL.cnt (inS z1) (types (t4 z0)) j + (if inS z1 B then 0 else 1) := by
               rw [cnt_succ, HV.out]; cases inS z1 B <;> rfl
             have HCS := Lib.hid hcs; clear hcs
             cases hS : inS z1 B
             · rw [hS] at hcb
               have HS := Lib.hid hS; clear hS
               by_cases hfound : (PL.cnt (inS z1) (types (t4 z0)) j : Int) + 1 = J
               · have hfb : ((PL.cnt (inS z1) (types (t4 z0)) j : Int) + 1 == J) = true := by simp [hfound]
                 have HF := Lib.hid hfound; clear hfound
                 go_wp2_with fail
                 go_quiet (fail)
                 go_wp2_with fail
                 go_ret
                 exact ⟨j, rfl, .inl ⟨hlt, by rw [HV.out, HS.out]; rfl, HF.out⟩, _, by rw [HQ.out, World.drewN_drewN]⟩
               · have hfb : ((PL.cnt (inS z1) (types (t4 z0)) j : Int) + 1 == J) = false := by simp [hfound]
                 go_wp2_with fail
                 go_quiet (fail)
                 go_wp2_with fail
                 go_roundg (n0 - (j + 1))
                 case measure => rw [KK.out]; omega
                 case rel => exact ⟨j + 1, rfl, by omega, by go_num, by rw [HCS.out, HS.out]; go_num, by rw [HCS.out, HS.out]; simp; omega, _, by rw [HQ.out, World.drewN_drewN]⟩
             · rw [hS] at hcb
               have HS := Lib.hid hS; clear hS
               go_wp2_with fail
               go_quiet (fail)
               go_wp2_with fail
               go_roundg (n0 - (j + 1))
               case measure => rw [KK.out]; omega
               case rel => exact ⟨j + 1, rfl, by omega, by go_num, by rw [HCS.out, HS.out]; go_num, by rw [HCS.out, HS.out]; simpa using hcJ, _, by rw [HQ.out, World.drewN_drewN]⟩)
      · obtain rfl : n0 = j := by omega
        go_wp2_with fail
        go_ret
        exact ⟨n0, rfl, .inr ⟨rfl, hcJ⟩, q, rfl⟩
theorem min_any (a b : Int) (w : World) : Calls Try.prog 20 #[.int .i64 a, .int .i64 b] w fun e w' => e = .returned (.int .i64 (min a b)) ∧ w = w' := by
  by_cases h : a < b
  · rw [show min a b = a by omega]
    go_enter Try.func20, Try.ntmps20
    go_wp2_with fail
    go_ret
    exact ⟨rfl, rfl⟩
  · rw [show min a b = b by omega]
    go_enter Try.func20, Try.ntmps20
    go_wp2_with fail
    go_ret
    exact ⟨rfl, rfl⟩

/-! ### the built lexer -/
theorem toksCells_snoc (l : List Tok) (t : Tok) : toksCells (l ++ [t]) = toksCells l ++ t.cells := by simp [toksCells]
theorem cells_one (t : Tok) : ∀ u ∈ t.cells, u.oneCell' = true := by
  intro u hu
  simp [Tok.cells] at hu
  rcases hu with rfl | rfl | rfl | rfl | rfl | rfl <;> rfl
theorem new5_any (w : World) (tb mb c nm : Nat) (L : List Tok) (S : Int → Bool) (hr : Row w tb 47 (toksCells L)) (hs : BSet Try.prog 45 4 w mb nm S) (hw : ∀ t ∈ L, (Lit.int .i64 t.ty).wf = true)
    (hl : L.length ≤ 1048576) :
    Calls Try.prog 52 #[.slice (some ⟨tb, 0, none⟩) L.length c, .map (some mb)] w fun e w' =>
      e = .returned (.pointer (some ⟨w.heap.size, 0, none⟩)) ∧ Lx w' w.heap.size tb mb c nm L S 0 0 0 ∧ Below w.heap.size w w' := by
  have hx : Lx (w.alloc (.cells #[.int .i64 0, .int .i64 0, .int .i64 0, .slice (some ⟨tb, 0, none⟩) L.length c, .map (some mb)] 41)) w.heap.size tb mb c nm L S 0 0 0 :=
    ⟨Blk.new _ _ _, hr.alloc _, hs.alloc _, hw, by omega⟩
  have HX := Lib.hid hx; clear hx
  clear hr hs hw hl
  go_enter Try.func52, Try.ntmps52
  go_wp2_with fail
  go_ret
  exact ⟨rfl, HX.out, (Below.refl _ _).alloc (Nat.le_refl _) _⟩
theorem advz5_any (w : World) (pb tb mb c nm : Nat) (L : List Tok) (S : Int → Bool) (raw cur : Int) (n : Nat) (h : Lx w pb tb mb c nm L S raw n cur) (hs : PL.stop S (types L) n < L.length) :
    Calls Try.prog 53 #[.pointer (some ⟨pb, 0, none⟩)] w (Adv w pb tb mb c nm L S raw cur n) := by
  go_enter Try.func53, Try.ntmps53
  go_wp2_with fail
  refine (adv_any _ pb tb mb c nm L S _ _ n h hs).mono ?_
  rintro e w2 ⟨rfl, hg, hx⟩
  go_wp2_with fail
  go_end0
  exact ⟨rfl, hg, hx⟩
/-- A lexer in new memory, its cursors at s. -/
def BuildPost (w : World) (L : List Tok) (S : Int → Bool) (s : PL.St) (e : Ending) (w' : World) : Prop :=
  ∃ pb tb mb c nm, e = .returned (.pointer (some ⟨pb, 0, none⟩)) ∧ w.heap.size ≤ pb ∧ w.heap.size ≤ tb ∧ w.heap.size ≤ mb ∧ L.length ≤ c ∧ c ≤ 1048576 ∧ Lx w' pb tb mb c nm L S s.raw s.next s.cur ∧ Below w.heap.size w w'
set_option maxHeartbeats 2000000 in
set_option maxRecDepth 100000 in
theorem build_any (A0 : Option Addr) (n0 c0 : Nat) (z0 : List Int) (A1 : Option Addr) (n1 c1 : Nat) (z1 : List Int) (w : World) (ht : Ints .u8 w A0 n0 z0) (he : Ints .u8 w A1 n1 z1) (h0 : n0 ≤ 65536) (h1 : n1 ≤ 65536) :
    Calls Try.prog 18 #[.slice A0 n0 c0, .slice A1 n1 c1] w (BuildPost w (t4 z0) (inS z1) (PL.fresh (inS z1) (types (t4 z0)))) := by
  obtain ⟨i0, hi, hz0, hz1, hz2⟩ := info_parts tokInfo
  have hl0 := ht.1
  have HL0 := Lib.hid hl0; clear hl0
  have hl1 := he.1
  have HL1 := Lib.hid hl1; clear hl1
  have HT := Lib.hid ht
  have HE := Lib.hid he
  have hF := t4_first' z0 (u8_ne ht)
  rw [HL0.out] at hF
  have HF := Lib.hid hF; clear hF
  have hw := t4_wf z0 (u8_i64 ht)
  have HW := Lib.hid hw; clear hw
  have hLl := t4_length z0
  rw [HL0.out] at hLl
  have HLL := Lib.hid hLl; clear hLl
  have hmm := makeMap_hint (P := Try.prog) 39 45 4 Try.underlying39
  rcases ht.split with e0 | ⟨b0, o0, rfl, hc0⟩ <;> rcases he.split with e1 | ⟨b1, o1, rfl, hc1⟩
  all_goals
    clear ht he
    go_enter Try.func18, Try.ntmps18
    go_wp2_with (at_make; refine wpList_make_own _ rfl _ _ 38 rfl w.heap.size 47 i0 _ 6 Try.underlying38 hi hz0 hz1 _ _ _ (n0 + 1) rfl rfl (by omega) (by rw [hz2]; omega) (by unfold maxLen; omega) (Nat.le_refl _) ?_; intro w1 hown1 hg1)
    go_loopg [5, 6] n0 (fun k v i wr => ∃ (j : Nat), k = n0 - j ∧ j ≤ n0 ∧ v = .slice (some ⟨w.heap.size, 0, none⟩) j (n0 + 1) ∧ i = .int .i64 j ∧
      wr.ownsRow w.heap.size 47 6 (.slice (some ⟨w.heap.size, 0, none⟩) j (n0 + 1)) j (toksCells ((t4Go 0 z0).take j)) ∧ Below w.heap.size w wr)
    case atStart => exact ⟨0, rfl, Nat.zero_le _, rfl, rfl, hown1, (Below.refl _ _).grown hg1 (Nat.le_refl _) (fun _ h => by cases h)⟩
    case round =>
      obtain ⟨j, hk, hj, rfl, rfl, hown, hbel⟩ := hrel
      have KK := Lib.hid hk; clear hk
      have hwlt : w.heap.size < wr.heap.size := (hown.lt _ rfl).2
      by_cases hlt : j < n0
      · first
          | (exfalso; omega)
          | (obtain ⟨B, hB, hBz⟩ := u8_nat HT.out hlt
             have hcj := (hbel.cell (p := ⟨b0, o0 + j, none⟩) (World.block_lt_of_cell? _ _ (hc0.out j hlt))).trans (hc0.out j hlt)
             rw [hBz] at hcj
             have HBZ := Lib.hid hBz; clear hBz
             generalize hpre : (t4Go 0 z0).take j = pre at hown
             have HP := Lib.hid hpre; clear hpre
             go_wp2_with (at_builtin; refine wpList_append_fits _ rfl _ _ 38 rfl w.heap.size 47 i0 6 Try.underlying38 hi hz1 w.heap.size j (n0 + 1) (toksCells pre) rfl (hown.alloc _) ⟨wr.heap.size, 0, none⟩ 1 1 (Tok.cells ⟨(B : Int), ByteArray.empty, ByteArray.empty, j, 0, 0⟩) rfl rfl ?_ ?_ (by omega) ?_; (exact World.news_of_block (heap_alloc_new _ _)); (exact cells_one ⟨_, _, _, _, _, _⟩); intro w2 hown2 hg2; have hb2 : Below w.heap.size w w2 := (hbel.alloc (by omega) _).grown hg2 (by simp; omega) (fun k hk => by injection hk with hk; omega); clear hg2)
             go_roundg (n0 - (j + 1))
             case measure => rw [KK.out]; omega
             case rel =>
               refine ⟨j + 1, rfl, by omega, rfl, by go_num, ?_, hb2⟩
               rw [t4_snoc z0 j (by rw [HL0.out]; exact hlt), HP.out, HBZ.out, toksCells_snoc]
               exact hown2)
      · have hjn : j = n0 := by omega
        have hlast : (t4Go 0 z0).take j ++ [⟨-1, ByteArray.empty, ByteArray.empty, (n0 : Int), 0, 0⟩] = t4 z0 := by
          rw [t4_last, HL0.out, hjn]
        generalize hpre : (t4Go 0 z0).take j = pre at hown hlast
        clear hpre
        have HLA := Lib.hid hlast; clear hlast
        have HJN := Lib.hid hjn; clear hjn
        go_wp2_with (at_builtin; refine wpList_append_fits _ rfl _ _ 38 rfl w.heap.size 47 i0 6 Try.underlying38 hi hz1 w.heap.size j (n0 + 1) (toksCells pre) rfl (hown.alloc _) ⟨wr.heap.size, 0, none⟩ 1 1 (Tok.cells ⟨-1, ByteArray.empty, ByteArray.empty, n0, 0, 0⟩) rfl rfl ?_ ?_ (by omega) ?_; (exact World.news_of_block (heap_alloc_new _ _)); (exact cells_one ⟨_, _, _, _, _, _⟩); intro w2 hown2 hg2; have hb2 : Below w.heap.size w w2 := (hbel.alloc (by omega) _).grown hg2 (by simp; omega) (fun k hk => by injection hk with hk; omega); clear hg2)
        have hrow2 := Row.of_own hown2
        rw [← toksCells_snoc, HLA.out] at hrow2
        clear hown2 hown hbel hmm
        obtain ⟨mb, hmb⟩ : ∃ mb, mb = w2.heap.size := ⟨_, rfl⟩
        have hmbw : w.heap.size ≤ mb := by rw [hmb]; exact hb2.size
        have hset0 : BSet Try.prog 45 4 (w2.alloc (.map #[] 0)) mb 0 (fun x => (z1.take 0).contains x) := by rw [hmb]; exact (BSet.made w2).congr (fun x => by simp)
        have hrow3 := hrow2.alloc (.map #[] 0)
        have hb3 : Below w.heap.size w (w2.alloc (.map #[] 0)) := hb2.alloc hb2.size _
        have htbm : w.heap.size ≠ mb := by have := hrow2.lt; omega
        rw [← hmb]
        clear hmb hrow2 hb2
        go_loopg [8] n1 (fun k i wr => ∃ m : Nat, k = n1 - m ∧ m ≤ n1 ∧ i = .int .i64 m ∧ BSet Try.prog 45 4 wr mb m (fun x => (z1.take m).contains x) ∧ Row wr w.heap.size 47 (toksCells (t4 z0)) ∧ Below w.heap.size w wr)
        case atStart => exact ⟨0, rfl, Nat.zero_le _, rfl, hset0, hrow3, hb3⟩
        case round =>
          clear hset0 hrow3 hb3
          obtain ⟨m, hk2, hm, rfl, hset, hrow, hbel2⟩ := hrel
          have KK2 := Lib.hid hk2; clear hk2
          by_cases hlt2 : m < n1
          · first
              | (exfalso; omega)
              | (obtain ⟨B, hB, hBz⟩ := u8_nat HE.out hlt2
                 have hcj := (hbel2.cell (p := ⟨b1, o1 + m, none⟩) (World.block_lt_of_cell? _ _ (hc1.out m hlt2))).trans (hc1.out m hlt2)
                 rw [hBz] at hcj
                 have HBZ := Lib.hid hBz; clear hBz
                 have hwf : (Lit.int .i64 (B : Int)).wf = true := by
                   have a : IntKind.i64.min = -9223372036854775808 := rfl
                   have b : IntKind.i64.max = 9223372036854775807 := rfl
                   simp [Lit.wf]
                   omega
                 have HWF := Lib.hid hwf; clear hwf
                 go_wp2_with (at_mapUpdate; refine wpList_store_bset _ rfl _ _ _ 39 rfl 45 4 Try.underlying45 Try.underlying4 Try.underlying39 mb m _ rfl hset (by unfold maxLen; omega) (B : Int) rfl rfl HWF.out ?_; intro w4 hset4 hg4; have hb4 : Below w.heap.size w w4 := hbel2.grown hg4 hbel2.size (fun k hk => by injection hk with hk; omega); have hrow4 := hrow.grown hg4 (fun e => by injection e with e; exact htbm e); clear hg4 hcj)
                 go_roundg (n1 - (m + 1))
                 case measure => rw [KK2.out]; omega
                 case rel => exact ⟨m + 1, rfl, by omega, by go_num, hset4.congr (fun x => by rw [← HBZ.out]; exact contains_snoc z1 m (by rw [HL1.out]; exact hlt2) x), hrow4, hb4⟩)
          · have hset' : BSet Try.prog 45 4 wr mb m (inS z1) := hset.congr (fun x => by rw [List.take_of_length_le (by rw [HL1.out]; omega)]; rfl)
            clear hset
            have hsl : PL.stop (inS z1) (types (t4 z0)) 0 < (t4 z0).length := by
              have := HF.out.stop_le (S := inS z1) (Nat.zero_le n0)
              rw [HLL.out]; omega
            have hll : n0 + 1 = (t4 z0).length := HLL.out.symm
            have HSL := Lib.hid hsl; clear hsl
            have hlb : (t4 z0).length ≤ 1048576 := by rw [HLL.out]; omega
            have HLB := Lib.hid hlb; clear hlb
            have hj1 : j + 1 = (t4 z0).length := by rw [HLL.out, HJN.out]
            have HJ1 := Lib.hid hj1; clear hj1
            have HLL2 := Lib.hid hll; clear hll
            go_wp2_with fail
            rw [HJ1.out]
            refine (new5_any _ w.heap.size mb (n0 + 1) m (t4 z0) (inS z1) hrow hset' HW.out HLB.out).mono ?_
            rintro e w5 ⟨rfl, hx5, hb5⟩
            have hbw5 := below_next hb5 hbel2
            have hpz := hbel2.size
            obtain ⟨pb, hpb⟩ : ∃ pb, pb = wr.heap.size := ⟨_, rfl⟩
            rw [← hpb] at hx5 hpz ⊢
            clear hpb hb5 hset' hrow hbel2
            go_wp2_with fail
            refine (advz5_any _ pb w.heap.size mb (n0 + 1) m (t4 z0) (inS z1) 0 0 0 hx5 HSL.out).mono ?_
            rintro e w6 ⟨rfl, hg6, hx6⟩
            have hbw6 : Below w.heap.size w w6 := hbw5.grown hg6 hbw5.size (fun k hk => by injection hk with hk; omega)
            go_wp2_with fail
            go_ret
            exact ⟨pb, w.heap.size, mb, n0 + 1, m, rfl, hpz, Nat.le_refl _, hmbw, by rw [HLL.out]; omega, by omega, hx6, hbw6⟩
end Go.Proofs.Ytnbpddcgpjjibaa
