/-
  Contracts of FnTop's small helpers: the comparison of two token slices, the token row, the least of two, errors.New. Conditions: the slices read as 'TSl', 'Ints' say.
-/
import Derived.Test.YtomfonilbenhbaaY1
namespace Go.Proofs.Ytomfonilbenhbaa
open Go.RowKit
set_option linter.unusedSimpArgs false
set_option linter.unusedVariables false
namespace Tp
open Up
/-- The slice A of N tokens lies in a row of the tokens L, from index a on. -/
def TSl (w : World) (A : Option Addr) (N : Nat) (L : List Tok) (a : Nat) : Prop := N = 0 ∨ ∃ g, A = some ⟨g, a * 6, none⟩ ∧ Row w g 46 (toksCells L) ∧ a + N ≤ L.length
theorem TSl.drewN {w : World} {A : Option Addr} {N a : Nat} {L : List Tok} (h : TSl w A N L a) (q : Nat) : TSl (w.drewN q) A N L a := h
theorem TSl.tok {w : World} {A : Option Addr} {N a : Nat} {L : List Tok} (h : TSl w A N L a) {j : Nat} (hj : j < N) : ∃ g, A = some ⟨g, a * 6, none⟩ ∧
    w.cell? ⟨g, a * 6 + j * 6, none⟩ = some (.int .i64 (L.getD (a + j) eofTok).ty) ∧ w.cell? ⟨g, a * 6 + j * 6 + 1, none⟩ = some (.string (L.getD (a + j) eofTok).val) ∧ w.cell? ⟨g, a * 6 + j * 6 + 1 + 1, none⟩ = some (.string (L.getD (a + j) eofTok).fn) ∧
    w.cell? ⟨g, a * 6 + j * 6 + 1 + 1 + 1, none⟩ = some (.int .i64 (L.getD (a + j) eofTok).off) ∧ w.cell? ⟨g, a * 6 + j * 6 + 1 + 1 + 1 + 1, none⟩ = some (.int .i64 (L.getD (a + j) eofTok).line) ∧ w.cell? ⟨g, a * 6 + j * 6 + 1 + 1 + 1 + 1 + 1, none⟩ = some (.int .i64 (L.getD (a + j) eofTok).col) := by
  rcases h with h | ⟨g, e, hr, hl⟩
  · omega
  · refine ⟨g, e, ?_⟩
    have := row_tok hr (i := a + j) (by omega)
    rwa [Nat.add_mul] at this
set_option maxHeartbeats 1000000 in
set_option maxRecDepth 100000 in
theorem same_any (w : World) (A B : Option Addr) (N cA cB a1 a2 : Nat) (L1 L2 : List Tok) (hA : TSl w A N L1 a1) (hB : TSl w B N L2 a2) (he : ∀ j, j < N → L1.getD (a1 + j) eofTok = L2.getD (a2 + j) eofTok) (hN : N ≤ 1048576) :
    Calls Try.prog 31 #[.slice A N cA, .slice B N cB] w fun e w' => e = .returned (.bool true) ∧ ∃ q, w' = w.drewN q := by
  have HE : Hid (∀ j, j < N → L1.getD (a1 + j) eofTok = L2.getD (a2 + j) eofTok) := he
  clear he
  go_enter Try.func31, Try.ntmps31
  go_wp2_with fail
  go_loopg [13] N (fun k i wx => ∃ j : Nat, k = N - j ∧ j ≤ N ∧ i = .int .i64 j ∧ ∃ q, wx = w.drewN q)
  case atStart => exact ⟨0, rfl, Nat.zero_le _, rfl, 0, rfl⟩
  case round =>
    obtain ⟨j, hq, hj, rfl, q0, hq0⟩ := hrel
    have KK := Lib.hid hq; clear hq
    have HQ0 := Lib.hid hq0; clear hq0
    by_cases hlt : j < N
    · have hA' := hA.drewN q0
      have hB' := hB.drewN q0
      rw [← HQ0.out] at hA' hB'
      obtain ⟨gA, rfl, d0, d1, d2, d3, d4, d5⟩ := hA'.tok hlt
      obtain ⟨gB, rfl, e0, e1, e2, e3, e4, e5⟩ := hB'.tok hlt
      rw [HE.out j hlt] at d0 d1 d2 d3 d4 d5
      obtain ⟨t, ht⟩ : ∃ t, t = L2.getD (a2 + j) eofTok := ⟨_, rfl⟩
      rw [← ht] at d0 d1 d2 d3 d4 d5 e0 e1 e2 e3 e4 e5
      have hi0 : (0 : Int) ≤ (j : Int) := by omega
      have hi1 : (j : Int) < (N : Int) := by omega
      clear ht hA' hB'
      go_wp2_with fail
      go_quiet (fail)
      go_wp2_with fail
      go_roundg (N - (j + 1))
      case measure => rw [KK.out]; omega
      case rel => exact ⟨j + 1, rfl, by omega, by go_num, _, by rw [HQ0.out, World.drewN_drewN]⟩
    · have hge : decide (j < N) = false := by simp; omega
      go_wp2_with fail
      go_ret
      exact ⟨rfl, q0, HQ0.out⟩
theorem min_any (a b : Int) (w : World) : Calls Try.prog 26 #[.int .i64 a, .int .i64 b] w fun e w' => e = .returned (.int .i64 (if a < b then a else b)) ∧ w = w' := by
  by_cases h : a < b
  · rw [if_pos h]
    go_enter Try.func26, Try.ntmps26
    go_wp2_with fail
    go_ret
    exact ⟨rfl, rfl⟩
  · rw [if_neg h]
    go_enter Try.func26, Try.ntmps26
    go_wp2_with fail
    go_ret
    exact ⟨rfl, rfl⟩
theorem err_any (s : ByteArray) (w : World) : Calls Try.prog 28 #[.string s] w fun e w' => e = .returned (.iface 110 (.pointer (some ⟨w.heap.size, 0, none⟩))) ∧ Below w.heap.size w w' := by
  go_enter Try.func28, Try.ntmps28
  go_wp2_with fail
  go_ret
  exact ⟨rfl, (Below.refl _ _).alloc (Nat.le_refl _) _⟩
theorem eofT_any (f : ByteArray) (o l c : Int) (w : World) : Calls Try.prog 62 #[.agg #[.string f, .int .i64 o, .int .i64 l, .int .i64 c]] w fun e w' => e = .returned (.agg #[.int .i64 (-1), .string ByteArray.empty, .string f, .int .i64 o, .int .i64 l, .int .i64 c]) ∧ Below w.heap.size w w' := by
  go_enter Try.func62, Try.ntmps62
  go_wp2_with fail
  exact bodyPost_ret (v := .agg #[.int .i64 (-1), .string ⟨#[]⟩, .string f, .int .i64 o, .int .i64 l, .int .i64 c]) (by simp [results, Try.results62, go_sem]) rfl ⟨rfl, ((Below.refl _ _).alloc (Nat.le_refl _) _).alloc (by simp) _⟩
/-- A built row of n tokens of types 0 to 4, then EOF. -/
structure TB (n : Nat) (L : List Tok) : Prop where
  len : L.length = n + 1
  ty : ∀ j, j < n → 0 ≤ (L.getD j eofTok).ty ∧ (L.getD j eofTok).ty ≤ 4
  last : (L.getD n eofTok).ty = -1
theorem TB.first {n : Nat} {L : List Tok} (h : TB n L) : PL.First (types L) (L.length - 1) := by
  rw [h.len, Nat.add_sub_cancel]
  refine ⟨by rw [at_types]; exact h.last, fun i hi => ?_⟩
  rw [at_types]
  have := (h.ty i hi).1
  omega
theorem TB.range {n : Nat} {L : List Tok} (h : TB n L) (j : Nat) : -1 ≤ (L.getD j eofTok).ty ∧ (L.getD j eofTok).ty ≤ 4 := by
  rcases Nat.lt_trichotomy j n with g | g | g
  · have := h.ty j g; omega
  · rw [g, h.last]; omega
  · rw [List.getD_eq_getElem?_getD, List.getElem?_eq_none (by rw [h.len]; omega)]; exact ⟨by decide, by decide⟩
theorem TB.wf {n : Nat} {L : List Tok} (h : TB n L) : ∀ t ∈ L, (Lit.int .i64 t.ty).wf = true := fun t ht => by
  obtain ⟨j, hj, rfl⟩ := List.mem_iff_getElem.1 ht
  have := h.range j
  rw [List.getD_eq_getElem?_getD, List.getElem?_eq_getElem hj] at this
  simp [Lit.wf, IntKind.min, IntKind.max, IntKind.signed, IntKind.bits] at this ⊢
  omega
def TPre (n : Nat) (L : List Tok) : Prop := L.length = n ∧ ∀ j, j < n → 0 ≤ (L.getD j eofTok).ty ∧ (L.getD j eofTok).ty ≤ 4
theorem TPre.snoc {n : Nat} {L : List Tok} (h : TPre n L) (t : Tok) (h0 : 0 ≤ t.ty) (h1 : t.ty ≤ 4) : TPre (n + 1) (L ++ [t]) := by
  refine ⟨by simp [h.1], fun j hj => ?_⟩
  rcases Nat.lt_or_ge j n with g | g
  · have e : (L ++ [t]).getD j eofTok = L.getD j eofTok := by simp [List.getD, List.getElem?_append_left (show j < L.length by rw [h.1]; exact g)]
    rw [e]; exact h.2 j g
  · obtain rfl : j = L.length := by rw [h.1]; omega
    have e : (L ++ [t]).getD L.length eofTok = t := by simp [List.getD]
    rw [e]; exact ⟨h0, h1⟩
theorem TPre.last {n : Nat} {L : List Tok} (h : TPre n L) (t : Tok) (ht : t.ty = -1) : TB n (L ++ [t]) := by
  refine ⟨by simp [h.1], fun j hj => ?_, ?_⟩
  · have e : (L ++ [t]).getD j eofTok = L.getD j eofTok := by simp [List.getD, List.getElem?_append_left (show j < L.length by rw [h.1]; exact hj)]
    rw [e]; exact h.2 j hj
  · have e : (L ++ [t]).getD n eofTok = t := by rw [← h.1]; simp [List.getD]
    rw [e]; exact ht
def ToksPost (w : World) (n : Nat) (e : Ending) (w' : World) : Prop :=
  ∃ (L : List Tok) (g c : Nat), e = .returned (.slice (some ⟨g, 0, none⟩) L.length c) ∧ TB n L ∧ w.heap.size ≤ g ∧ (L.length ≤ c ∧ c ≤ maxLen) ∧ Row w' g 46 (toksCells L) ∧ Below w.heap.size w w'
set_option maxHeartbeats 2000000 in
set_option maxRecDepth 100000 in
theorem toks_any (A : Option Addr) (n c : Nat) (z : List Int) (w : World) (hv : Ints .u8 w A n z) (hn : n ≤ 65536) :
    Calls Try.prog 27 #[.slice A n c] w (ToksPost w n) := by
  obtain ⟨i0, hi, hz0, hz1, hz2⟩ := info_parts Go.Proofs.Ytomfonilbenhbaa.tokInfo
  have HL := Lib.hid hv.1
  have HV := Lib.hid hv
  clear hv
  go_enter Try.func27, Try.ntmps27
  go_wp2_with (at_make; refine wpList_make_own _ rfl _ _ 27 rfl w.heap.size 46 i0 _ 6 Try.underlying27 hi hz0 hz1 _ _ _ (n + 1) rfl rfl (by omega) (by rw [hz2]; omega) (by unfold maxLen; omega) (Nat.le_refl _) ?_; intro w1 hown1 hg1)
  have hb1 : Below w.heap.size w w1 := (Below.refl _ _).grown hg1 (Nat.le_refl _) (fun _ h => by cases h)
  clear hg1
  go_loopg [3, 12] n (fun k v i wr => ∃ (j : Nat) (pre : List Tok), k = n - j ∧ j ≤ n ∧ TPre j pre ∧ i = .int .i64 j ∧ v = .slice (some ⟨w.heap.size, 0, none⟩) j (n + 1) ∧ wr.ownsRow w.heap.size 46 6 (.slice (some ⟨w.heap.size, 0, none⟩) j (n + 1)) j (toksCells pre) ∧ Below w.heap.size w wr)
  case atStart => exact ⟨0, [], rfl, Nat.zero_le _, ⟨rfl, fun j h => absurd h (Nat.not_lt_zero _)⟩, rfl, rfl, hown1, hb1⟩
  case round =>
    obtain ⟨j, pre, hk, hj, hpre, rfl, rfl, hown, hbel⟩ := hrel
    have KK := Lib.hid hk; clear hk hb1 hown1
    have HP := Lib.hid hpre; clear hpre
    by_cases hlt : j < n
    · rcases HV.out.split with h | ⟨b, off, rfl, hc⟩
      · exfalso; omega
      · have hcj0 := hc.out j hlt
        have hcj := (hbel.cell (p := ⟨b, off + j, none⟩) (World.block_lt_of_cell? _ _ hcj0)).trans hcj0
        have hwf := HV.out.wf hlt
        have hr : 0 ≤ z.getD j 0 ∧ z.getD j 0 ≤ 255 := by
          simp [Lit.wf, IntKind.min, IntKind.max, IntKind.signed, IntKind.bits] at hwf
          simpa using hwf
        clear hcj0 hwf hc
        generalize z.getD j 0 = zj at hcj hr
        have hsz := hbel.size
        have hi0 : (0 : Int) ≤ (j : Int) := by omega
        have hi1 : (j : Int) < (n : Int) := by omega
        go_wp2_with (at_builtin; refine wpList_append_fits _ rfl _ _ 27 rfl w.heap.size 46 i0 6 Try.underlying27 hi hz1 w.heap.size j (n + 1) (toksCells pre) rfl (hown.alloc _) ⟨wr.heap.size, 0, none⟩ 1 1 (Tok.cells ⟨zj % 5, Utf8.encode (97 + zj / 5 % 26), ⟨#[105, 110]⟩, j, 1, (j : Int) + 1⟩) rfl rfl ?_ ?_ (by omega) ?_; (exact World.news_of_block (heap_alloc_new _ _)); (exact cells_one ⟨_, _, _, _, _, _⟩); intro w6 hown6 hg6)
        have hb6 : Below w.heap.size w w6 := (hbel.alloc hsz _).grown hg6 (by simp; omega) (fun k hk => by injection hk with hk; omega)
        have hownN : w6.ownsRow w.heap.size 46 6 (.slice (some ⟨w.heap.size, 0, none⟩) (j + 1) (n + 1)) (j + 1) (toksCells (pre ++ [⟨zj % 5, Utf8.encode (97 + zj / 5 % 26), ⟨#[105, 110]⟩, j, 1, (j : Int) + 1⟩])) := by
          rw [toksCells_snoc]; exact hown6
        have HN := Lib.hid (HP.out.snoc ⟨zj % 5, Utf8.encode (97 + zj / 5 % 26), ⟨#[105, 110]⟩, j, 1, (j : Int) + 1⟩ (by show 0 ≤ zj % 5; omega) (by show zj % 5 ≤ 4; omega))
        clear hown6 hg6 hown
        go_wp2_with fail
        go_roundg (n - (j + 1))
        case measure => rw [KK.out]; omega
        case rel => exact ⟨j + 1, _, rfl, by omega, HN.out, by go_num, rfl, hownN, hb6⟩
    · obtain rfl : n = j := by omega
      have hge : decide (n < n) = false := by simp
      go_wp2_with fail
      refine (eofT_any _ _ _ _ _).mono ?_
      rintro e w5 ⟨rfl, hb5⟩
      have hown5 := own_later hown hb5
      have hbw5 := below_next hb5 hbel
      clear hown hb5
      go_wp2_with (at_builtin; refine wpList_append_fits _ rfl _ _ 27 rfl w.heap.size 46 i0 6 Try.underlying27 hi hz1 w.heap.size n (n + 1) (toksCells pre) rfl (hown5.alloc _) ⟨w5.heap.size, 0, none⟩ 1 1 (Tok.cells ⟨-1, ByteArray.empty, ⟨#[105, 110]⟩, n, 1, (n : Int) + 1⟩) rfl rfl ?_ ?_ (by omega) ?_; (exact World.news_of_block (heap_alloc_new _ _)); (exact cells_one ⟨_, _, _, _, _, _⟩); intro w6 hown6 hg6)
      have hb6 : Below w.heap.size w w6 := (hbw5.alloc hbw5.size _).grown hg6 (by have := hbw5.size; simp; omega) (fun k hk => by injection hk with hk; omega)
      have hTB := HP.out.last ⟨-1, ByteArray.empty, ⟨#[105, 110]⟩, n, 1, (n : Int) + 1⟩ rfl
      have HTB := Lib.hid hTB
      clear hg6 hTB
      go_ret
      refine ⟨_, w.heap.size, n + 1, ?_, HTB.out, Nat.le_refl _, ⟨?_, by unfold maxLen; omega⟩, ?_, hb6⟩
      · rw [HTB.out.len]; rfl
      · rw [HTB.out.len]; exact Nat.le_refl _
      · rw [toksCells_snoc]; exact Row.of_own hown6
end Tp
end Go.Proofs.Ytomfonilbenhbaa
