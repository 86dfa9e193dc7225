/-
  Comparing stacks, and the stack that a list of names builds. Conditions: sizes as stated.
-/
import Derived.Test.YtjgmknlkgpfpkaaJ4
namespace Go.Proofs.Ytjgmknlkgpfpkaa
open Go.RowKit
set_option linter.unusedSimpArgs false
set_option linter.unusedVariables false
theorem GS.split {w : World} {A : Option Addr} {n : Nat} {gs : List ByteArray} (h : GS w A n gs) : n ≤ 0 ∨ ∃ r, A = some ⟨r, 0, none⟩ ∧ Hid (∀ i, i < n → w.cell? ⟨r, i, none⟩ = some (.string (gs.getD i ByteArray.empty))) := by
  obtain ⟨h1, h2⟩ := h
  rcases h2 with ⟨-, h2⟩ | ⟨r, h3, h4⟩
  · exact .inl (by rw [h1, h2]; simp)
  · refine .inr ⟨r, h3, fun i hi => h4.cell ?_⟩
    rw [h1] at hi
    rw [List.getElem?_map, List.getElem?_eq_getElem hi, List.getD_eq_getElem?_getD, List.getElem?_eq_getElem hi]; rfl
section
variable {w : World}
set_option maxHeartbeats 1000000 in
set_option maxRecDepth 100000 in
theorem sameEntry_any {lo hi a b i j : Nat} {es fs : List Ent} {x y : Ent} (h1 : StkR lo w a es) (h2 : StkR hi w b fs) (hx : es[i]? = some x) (hy : fs[j]? = some y) (hk : x.key = y.key) (hb : x.gs.length ≤ 1048576) :
    Calls Try.prog 25 #[.pointer (some ⟨a, 0, none⟩), .int .i64 i, .pointer (some ⟨b, 0, none⟩), .int .i64 j] w fun e w' => e = .returned (.bool true) ∧ Below w.heap.size w w' := by
  obtain ⟨xn, xA, xm, xc, xg⟩ := x
  obtain ⟨yn, yA, ym, yc, yg⟩ := y
  simp only [Ent.key, Prod.mk.injEq] at hk
  obtain ⟨rfl, rfl⟩ := hk
  obtain ⟨-, -, -, -, -, gx⟩ := h1.ent hx
  obtain ⟨-, -, -, -, -, gy⟩ := h2.ent hy
  obtain ⟨N, hN⟩ : ∃ N, N = xg.length := ⟨_, rfl⟩
  obtain rfl : xm = N := by rw [hN]; exact gx.1
  obtain rfl : ym = xm := by rw [hN]; exact gy.1
  simp only at hb
  rw [← hN] at hb
  have C1 := Lib.hid (name_any h1 hx)
  have C2 := Lib.hid (name_any h2 hy)
  have C3 := Lib.hid (groups_any h1 hx)
  have C4 := Lib.hid (groups_any h2 hy)
  have GX := Lib.hid gx
  have GY := Lib.hid gy
  clear h1 h2 hx hy gx gy hN
  go_enter Try.func25, Try.ntmps25
  go_wp2_with fail
  refine C1.out.mono ?_
  rintro e w1 ⟨rfl, rfl⟩
  go_wp2_with fail
  refine C2.out.mono ?_
  rintro e w1 ⟨rfl, rfl⟩
  go_wp2_with fail
  refine C3.out.mono ?_
  rintro e w1 ⟨rfl, rfl⟩
  go_wp2_with fail
  refine C4.out.mono ?_
  rintro e w1 ⟨rfl, rfl⟩
  go_wp2_with fail
  go_loopg [11] ym (fun k i wr => ∃ l : Nat, k = ym - l ∧ l ≤ ym ∧ i = .int .i64 l ∧ Below w.heap.size w wr)
  case atStart => exact ⟨0, rfl, Nat.zero_le _, rfl, Below.refl _ _⟩
  case round =>
    obtain ⟨l, hkk, hl, rfl, hbel⟩ := hrel
    have KK := Lib.hid hkk; clear hkk
    by_cases hlt : l < ym
    · rcases (GX.out.later hbel).split with h | ⟨r1, rfl, hc1⟩
      · exfalso; omega
      rcases (GY.out.later hbel).split with h | ⟨r2, rfl, hc2⟩
      · exfalso; omega
      have c1 := hc1.out l hlt
      have c2 := hc2.out l hlt
      clear hc1 hc2
      generalize xg.getD l ByteArray.empty = sl at c1 c2
      have l0 : (0 : Int) ≤ (l : Int) := by omega
      have l1 : (l : Int) < (ym : Int) := by omega
      go_wp2_with fail
      go_quiet (fail)
      go_wp2_with fail
      go_roundg (ym - (l + 1))
      case measure => rw [KK.out]; omega
      case rel => exact ⟨l + 1, rfl, by omega, by go_num, below_drewN hbel _⟩
    · go_wp2_with fail
      go_ret
      exact ⟨rfl, hbel⟩
/-- The first k entries of the two stacks agree. -/
def Agree (es fs : List Ent) (k : Nat) : Prop := ∀ i, i < k → ∃ x y, es[i]? = some x ∧ fs[i]? = some y ∧ x.key = y.key ∧ x.gs.length ≤ 1048576
set_option maxHeartbeats 1000000 in
set_option maxRecDepth 100000 in
theorem prefix_any {lo hi a b k : Nat} {es fs : List Ent} (h1 : StkR lo w a es) (h2 : StkR hi w b fs) (hl : es.length = k) (hf : k ≤ fs.length) (hfs : fs.length ≤ 1048576) (hag : Agree es fs k) :
    Calls Try.prog 17 #[.pointer (some ⟨a, 0, none⟩), .pointer (some ⟨b, 0, none⟩), .int .i64 k] w fun e w' => e = .returned (.bool true) ∧ Below w.heap.size w w' := by
  have C1 := len_any h1
  have C2 := len_any h2
  rw [hl] at C1
  generalize fs.length = M at C2 hf hfs
  have C1 := Lib.hid C1
  have C2 := Lib.hid C2
  have H1 := Lib.hid h1
  have H2 := Lib.hid h2
  have HA := Lib.hid hag
  clear h1 h2 hl hag
  have e1 : ¬ (M : Int) < (k : Int) := by omega
  have e2 : decide ((M : Int) < (k : Int)) = false := by simpa using e1
  have e3 : decide (M < k) = false := by simpa using hf
  go_enter Try.func17, Try.ntmps17
  go_wp2_with fail
  refine C1.out.mono ?_
  rintro e w1 ⟨rfl, rfl⟩
  go_wp2_with fail
  refine C2.out.mono ?_
  rintro e w1 ⟨rfl, rfl⟩
  go_wp2_with fail
  go_loopg [7] k (fun m i wr => ∃ l : Nat, m = k - l ∧ l ≤ k ∧ i = .int .i64 l ∧ Below w.heap.size w wr)
  case atStart => exact ⟨0, rfl, Nat.zero_le _, rfl, Below.refl _ _⟩
  case round =>
    obtain ⟨l, hkk, hl, rfl, hbel⟩ := hrel
    have KK := Lib.hid hkk; clear hkk
    by_cases hlt : l < k
    · obtain ⟨x, y, hx, hy, hkey, hbg⟩ := HA.out l hlt
      have C3 := Lib.hid (sameEntry_any (H1.out.later hbel) (H2.out.later hbel) hx hy hkey hbg)
      clear hx hy hkey hbg
      go_wp2_with fail
      refine C3.out.mono ?_
      rintro e w1 ⟨rfl, hb1⟩
      have hb2 := below_next hb1 hbel
      clear hb1 hbel
      go_wp2_with fail
      go_roundg (k - (l + 1))
      case measure => rw [KK.out]; omega
      case rel => exact ⟨l + 1, rfl, by omega, by go_num, hb2⟩
    · go_wp2_with fail
      go_ret
      exact ⟨rfl, hbel⟩
set_option maxHeartbeats 1000000 in
set_option maxRecDepth 100000 in
theorem stack_any {lo hi a b : Nat} {es fs : List Ent} (h1 : StkR lo w a es) (h2 : StkR hi w b fs) (hl : es.length = fs.length) (hfs : fs.length ≤ 1048576) (hag : Agree es fs fs.length) :
    Calls Try.prog 14 #[.pointer (some ⟨a, 0, none⟩), .pointer (some ⟨b, 0, none⟩)] w fun e w' => e = .returned (.bool true) ∧ Below w.heap.size w w' := by
  have C1 := Lib.hid (len_any h1)
  have C2 := Lib.hid (len_any h2)
  have C3 := Lib.hid (prefix_any h1 h2 hl (Nat.le_refl _) hfs hag)
  clear h1 h2 hag
  go_enter Try.func14, Try.ntmps14
  go_wp2_with fail
  refine C1.out.mono ?_
  rintro e w1 ⟨rfl, rfl⟩
  rw [hl]
  clear hl C1
  generalize fs.length = M at C2 C3 hfs ⊢
  go_wp2_with fail
  refine C2.out.mono ?_
  rintro e w1 ⟨rfl, rfl⟩
  go_wp2_with fail
  refine C2.out.mono ?_
  rintro e w1 ⟨rfl, rfl⟩
  go_wp2_with fail
  refine C3.out.mono ?_
  rintro e w1 ⟨rfl, hb⟩
  go_wp2_with fail
  go_ret
  exact ⟨rfl, hb⟩
end
/-! ### the stack that is built -/
def grp (v : ByteArray) : List ByteArray := [(⟨#[120]⟩ : ByteArray) ++ v, v]
def stackKeys (z g : List ByteArray) : List (ByteArray × List ByteArray) := rootEnt.key :: (List.range z.length).map fun i => (z.getD i ByteArray.empty, grp (g.getD i ByteArray.empty))
theorem stackKeys_length (z g : List ByteArray) : (stackKeys z g).length = z.length + 1 := by simp [stackKeys]
theorem stackKeys_take (z g : List ByteArray) (i : Nat) (h : i < z.length) : (stackKeys z g).take (i + 1 + 1) = (stackKeys z g).take (i + 1) ++ [(z.getD i ByteArray.empty, grp (g.getD i ByteArray.empty))] := by
  rw [List.take_succ_eq_append_getElem (by rw [stackKeys_length]; omega)]
  congr 1
  simp [stackKeys]
theorem stackKeys_full (z g : List ByteArray) : (stackKeys z g).take (z.length + 1) = stackKeys z g := List.take_of_length_le (by rw [stackKeys_length]; exact Nat.le_refl _)
theorem stackKeys_len (z g : List ByteArray) : ∀ k ∈ stackKeys z g, k.2.length ≤ 1048576 := by
  intro k hk
  simp only [stackKeys, List.mem_cons, List.mem_map] at hk
  rcases hk with rfl | ⟨i, -, rfl⟩
  · show 0 ≤ _; omega
  · show 2 ≤ _; omega
theorem agree_of {es fs : List Ent} {k : Nat} (h : (es.map Ent.key).take k = (fs.map Ent.key).take k) (h1 : k ≤ es.length) (h2 : k ≤ fs.length) (hl : ∀ x ∈ es.map Ent.key, x.2.length ≤ 1048576) : Agree es fs k := by
  intro i hi
  refine ⟨es[i], fs[i], List.getElem?_eq_getElem (by omega), List.getElem?_eq_getElem (by omega), ?_, ?_⟩
  · have := congrArg (fun l => l[i]?) h
    simp [hi] at this
    rw [List.getElem?_eq_getElem (by omega), List.getElem?_eq_getElem (by omega)] at this
    simpa using this
  · exact hl (es[i].key) (List.mem_map.2 ⟨_, List.getElem_mem _, rfl⟩)
/-- A new lexer with the stack that the names build. -/
def BuildPost (w : World) (z g : List ByteArray) (e : Ending) (w' : World) : Prop :=
  ∃ b v es, e = .returned (.pointer (some ⟨b, 0, none⟩)) ∧ StkO w.heap.size w' b v es ∧ es.map Ent.key = stackKeys z g ∧ Below w.heap.size w w'
set_option maxHeartbeats 2000000 in
set_option maxRecDepth 100000 in
theorem build_any (A0 : Option Addr) (n0 c0 : Nat) (z0 : List ByteArray) (A1 : Option Addr) (n1 c1 : Nat) (z1 : List ByteArray) (w : World) (hv : Strs w A0 n0 z0) (hu : Strs w A1 n1 z1) (h0 : n0 ≤ 4096) (h1 : n1 ≤ 4096) (hs : sumB z1 ≤ 1048576) :
    Calls Try.prog 9 #[.slice A0 n0 c0, .slice A1 n1 c1] w (BuildPost w z0 z1) := by
  have HV := Lib.hid hv
  have HU := Lib.hid hu
  have HL := Lib.hid hv.1
  have HL1 := Lib.hid hu.1
  clear hv hu
  go_enter Try.func9, Try.ntmps9
  go_wp2_with fail
  refine (root_any w).mono ?_
  rintro e w1 ⟨b, v, rfl, hst, hb1⟩
  go_wp2_with fail
  go_loopg [6] n0 (fun k i wr => ∃ (j : Nat) (v : Value) (es : List Ent), k = n0 - j ∧ j ≤ n0 ∧ i = .int .i64 j ∧ StkO w.heap.size wr b v es ∧ Hid (es.map Ent.key = (stackKeys z0 z1).take (j + 1)) ∧ Below w.heap.size w wr)
  case atStart => exact ⟨0, v, [rootEnt], rfl, Nat.zero_le _, rfl, hst, Lib.hid (by simp [stackKeys]), hb1⟩
  case round =>
    obtain ⟨j, v2, es, hk, hj, rfl, hst2, HK, hbel⟩ := hrel
    have KK := Lib.hid hk; clear hk hst hb1
    by_cases hlt : j < n0
    · rcases (HV.out.later hbel).split with h | ⟨b0, o0, rfl, hc⟩
      · exfalso; omega
      have hcj := hc.out j hlt
      have hcA := fun o => cell_alloc hcj o
      have hel : es.length ≤ 1048576 := by
        have := congrArg List.length HK.out
        rw [List.length_map, List.length_take] at this
        omega
      have HKN := Lib.hid (stackKeys_take z0 z1 j (by rw [HL.out]; exact hlt))
      have hsz := hbel.size
      have hi0 : (0 : Int) ≤ (j : Int) := by omega
      have hi1 : (j : Int) < (n0 : Int) := by omega
      have hsv := Nat.le_trans (sumB_get z1 j) hs
      generalize z0.getD j ByteArray.empty = nj at hcj hcA HKN
      have main : ∀ vv : ByteArray, vv = z1.getD j ByteArray.empty → Calls Try.prog 19 #[.string nj, .pointer (some ⟨b, 0, none⟩), .slice (some ⟨wr.heap.size, 0, none⟩) 2 2] (wr.alloc (.cells #[.string ((⟨#[120]⟩ : ByteArray) ++ vv), .string vv] 9)) (fun e w' => e = .returned .nilIface ∧ ∃ v', StkO w.heap.size w' b v' (es ++ [⟨nj, some ⟨wr.heap.size, 0, none⟩, 2, 2, grp vv⟩]) ∧ Below w.heap.size w w') := by
        intro vv hvv
        have hbA : Below wr.heap.size wr (wr.alloc (.cells #[.string ((⟨#[120]⟩ : ByteArray) ++ vv), .string vv] 9)) := (Below.refl _ _).alloc (Nat.le_refl _) _
        refine pushW ((push_any w.heap.size nj b v2 es _ 2 2 (grp vv) _ (hst2.later hbA) ⟨rfl, .inr ⟨_, rfl, Row.of_blk (Blk.new wr _ _) rfl⟩⟩ hel (by simp; omega) ?_).mono fun e w' h => ?_)
        · show 0 < ((⟨#[120]⟩ : ByteArray) ++ vv).size
          simp; show 0 < 1 + vv.size; omega
        · exact ⟨.inl h.1, h.1, h.2.1.choose, h.2.1.choose_spec, (below_next hbA hbel).trans h.2.2.1⟩
      have MAIN := Lib.hid main
      clear main hc
      by_cases hlt1 : j < n1
      · rcases (HU.out.later hbel).split with h | ⟨b1, o1, rfl, hcu⟩
        · exfalso; omega
        have hcg := hcu.out j hlt1
        have M := Lib.hid (MAIN.out _ rfl)
        have e1 : (⟨#[120]⟩ : ByteArray).size = 1 := rfl
        clear hcu MAIN
        generalize z1.getD j ByteArray.empty = vv at hcg M HKN hsv
        go_wp2_with fail
        refine M.out.mono ?_
        rintro e w3 ⟨rfl, v3, hst3, hb3⟩
        have HK3 : Hid ((es ++ [(⟨nj, some ⟨wr.heap.size, 0, none⟩, 2, 2, grp vv⟩ : Ent)]).map Ent.key = (stackKeys z0 z1).take (j + 1 + 1)) := by
          show _ = _
          rw [List.map_append, HK.out, HKN.out]; rfl
        clear hcg hst2 M
        go_wp2_with fail
        go_roundg (n0 - (j + 1))
        case measure => rw [KK.out]; omega
        case rel => exact ⟨j + 1, v3, _, rfl, by omega, by go_num, hst3, HK3, hb3⟩
      · have hz : ByteArray.empty = z1.getD j ByteArray.empty := by
          rw [List.getD_eq_getElem?_getD, List.getElem?_eq_none (by rw [HL1.out]; omega)]; rfl
        have M := Lib.hid (MAIN.out (⟨#[]⟩ : ByteArray) hz)
        rw [← hz] at HKN
        have e1 : (⟨#[120]⟩ : ByteArray).size = 1 := rfl
        clear MAIN hz
        go_wp2_with fail
        refine M.out.mono ?_
        rintro e w3 ⟨rfl, v3, hst3, hb3⟩
        have HK3 : Hid ((es ++ [(⟨nj, some ⟨wr.heap.size, 0, none⟩, 2, 2, grp ⟨#[]⟩⟩ : Ent)]).map Ent.key = (stackKeys z0 z1).take (j + 1 + 1)) := by
          show _ = _
          rw [List.map_append, HK.out, HKN.out]; rfl
        clear hst2 M
        go_wp2_with fail
        go_roundg (n0 - (j + 1))
        case measure => rw [KK.out]; omega
        case rel => exact ⟨j + 1, v3, _, rfl, by omega, by go_num, hst3, HK3, hb3⟩
    · obtain rfl : n0 = j := by omega
      go_wp2_with fail
      go_ret
      exact ⟨b, v2, es, rfl, hst2, by rw [HK.out, ← HL.out]; exact stackKeys_full _ _, hbel⟩
end Go.Proofs.Ytjgmknlkgpfpkaa
