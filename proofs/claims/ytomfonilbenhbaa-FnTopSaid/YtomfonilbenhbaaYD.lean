/-
  FnTop from the token row to the elide list. Conditions: the header's bytes and the rest of the code read as given.
-/
import Derived.Test.YtomfonilbenhbaaYC
namespace Go.Proofs.Ytomfonilbenhbaa
open Go.RowKit
set_option linter.unusedSimpArgs false
set_option linter.unusedVariables false
namespace Tp
open Up
noncomputable def rest12 : Code := right 7 top
theorem ints_take {k : IntKind} {w : World} {A : Option Addr} {N n : Nat} {z : List Int} (h : Ints k w A N z) (hn : n ≤ N) : Ints k w A n (z.take n) := by
  obtain ⟨h1, h2, h3, h4⟩ := h
  refine ⟨by rw [List.length_take]; omega, by omega, fun x hx => h3 x (List.mem_of_mem_take hx), ?_⟩
  rcases Nat.eq_zero_or_pos n with e | e
  · subst e; exact .inl ⟨rfl, by simp⟩
  · rcases h4 with ⟨g, -⟩ | ⟨b, off, rfl, hb, hc⟩
    · omega
    · refine .inr ⟨b, off, rfl, hb, fun i hi => ?_⟩
      rw [hc i (by omega)]
      simp [List.getD, List.getElem?_take, hi]
theorem ints_drop {k : IntKind} {w : World} {A : Option Addr} {N C n : Nat} {z : List Int} (h : Ints k w A N z) (hn : n ≤ N) (hC : N ≤ C) : Ints k w (if C = n then A else A.map (fun x => x.add (n * 1))) (N - n) (z.drop n) := by
  obtain ⟨h1, h2, h3, h4⟩ := h
  refine ⟨by rw [List.length_drop]; omega, by omega, fun x hx => h3 x (List.mem_of_mem_drop hx), ?_⟩
  rcases Nat.eq_zero_or_pos (N - n) with e | e
  · exact .inl ⟨e, List.eq_nil_of_length_eq_zero (by rw [List.length_drop]; omega)⟩
  · rcases h4 with ⟨g, -⟩ | ⟨b, off, rfl, hb, hc⟩
    · omega
    · refine .inr ⟨b, off + n, ?_, hb, fun i hi => ?_⟩
      · rw [if_neg (by omega), Nat.mul_one]
        simp only [Option.map_some, Option.some.injEq]
        unfold Addr.add
        split <;> simp_all
      · rw [Nat.add_assoc, hc (n + i) (by omega)]
        simp [List.getD]
/-- The elide list and the machine's table behind j types. -/
structure EL (j : Nat) (zE : List Int) (E : Nat → Bool) : Prop where
  rg : ∀ x ∈ zE, -1 ≤ x ∧ x ≤ 4
  len : zE.length ≤ j
  es : ES E (inS zE)
theorem EL.nil : EL 0 [] (fun _ => false) := ⟨fun x hx => (by cases hx), Nat.le_refl _, fun N hN => rfl⟩
theorem inS_snoc (z : List Int) (x y : Int) : inS (z ++ [x]) y = (inS z y || y == x) := by
  unfold inS
  rw [List.contains_eq_any_beq, List.contains_eq_any_beq, List.any_append]
  simp
theorem EL.add {j : Nat} {zE : List Int} {E : Nat → Bool} (h : EL j zE E) (x : Int) (N : Nat) (hx : x + 1 = (N : Int)) (hN : x ≤ 4) : EL (j + 1) (zE ++ [x]) (fun k => k == N || E k) := by
  refine ⟨fun y hy => ?_, by simp; have := h.len; omega, fun M hM => ?_⟩
  · rcases List.mem_append.1 hy with g | g
    · exact h.rg y g
    · simp at g; omega
  · show (M == N || E M) = _
    rw [inS_snoc, h.es M hM, Bool.or_comm]
    congr 1
    rw [Bool.eq_iff_iff]
    simp
    omega
theorem EL.mono {j j' : Nat} {zE : List Int} {E : Nat → Bool} (h : EL j zE E) (hj : j ≤ j') : EL j' zE E := ⟨h.rg, by have := h.len; omega, h.es⟩
theorem EL.dup {j : Nat} {zE : List Int} {E : Nat → Bool} (h : EL j zE E) (x : Int) (hx : x ∈ zE) : EL (j + 1) (zE ++ [x]) E := by
  refine ⟨fun y hy => ?_, by simp; have := h.len; omega, fun M hM => ?_⟩
  · rcases List.mem_append.1 hy with g | g
    · exact h.rg y g
    · simp at g; subst g; exact h.rg _ hx
  · rw [inS_snoc, h.es M hM]
    by_cases e : (M : Int) - 1 = x
    · have : inS zE ((M : Int) - 1) = true := by rw [e]; unfold inS; simpa using hx
      rw [this]; rfl
    · have : ((M : Int) - 1 == x) = false := by simpa using e
      rw [this, Bool.or_false]
theorem Rf.setEl {w : World} {rb tt c : Nat} {L : List Tok} {E : Nat → Bool} {raw next cur : Int} (h : Rf w rb tt c L E raw next cur) {N : Nat} (hN : N < 7) : Rf (w.setCell ⟨rb, 1 + N, none⟩ (.bool true)) rb tt c L (fun k => k == N || E k) raw next cur := by
  refine ⟨?_, h.row.far (p := ⟨rb, 1 + N, none⟩) h.ne _⟩
  have := h.blk.set (1 + N) (.bool true)
  match N, hN with
  | 0, _ | 1, _ | 2, _ | 3, _ | 4, _ | 5, _ | 6, _ => simpa [rfCells] using this
set_option maxHeartbeats 4000000 in
set_option maxRecDepth 1000000 in
theorem rest27_v (w0 w : World) (hb rb tt c2 n ON OC : Nat) (v : Value) (OA : Option Addr) (zE zO : List Int) (h0 h1 h2 : Int) (L : List Tok) (E : Nat → Bool) (Q : Exit → Act → World → Prop)
    (hQ : Hid (∀ (T : Array Value) (w' : World), T.getD 2 undef = .bool true → Below w0.heap.size w0 w' → Q .ret ⟨T, []⟩ w')) (hH : Blk w hb 59 #[.int .u8 h0, .int .u8 h1, .int .u8 h2]) (hh2 : 0 ≤ h2 ∧ h2 ≤ 255) (hr : Rf w rb tt c2 L E 0 0 0) (hT : TB n L) (hn : n ≤ 65536)
    (hown : w.ownsRow w0.heap.size 42 1 v zE.length (intsV zE)) (hEL : EL 7 zE E) (hO : Ints .u8 w0 OA ON zO) (hON : ON ≤ 1048576) (hcap2 : L.length ≤ c2 ∧ c2 ≤ maxLen) (hbl : Below w0.heap.size w0 w) (hrb : w0.heap.size ≤ rb) (u0 u2 u4 u5 u11 u37 u38 u39 u40 u41 u42 u43 u44 u45 u46 u47 u48 u49 u50 u51 u52 u53 u54 u55 u56 u57 u58 u59 u60 u61 u62 u63 u64 u65 u66 u67 u68 u69 u70 u71 u72 u73 u74 u75 u76 u77 u78 u79 u80 u81 u82 u83 u84 u85 u86 u87 u88 u89 u90 u91 u92 u93 u94 u95 u96 u97 u98 u99 u100 u101 u102 u103 u104 u105 u106 u107 u108 u109 u110 u111 u112 u113 u114 u115 u116 u117 u118 u119 u120 u121 u122 u123 u124 u125 u126 : Value) :
    Code.wp Try.prog rest27 Q ⟨#[u0, undef, u2, .pointer (some ⟨hb, 0, none⟩), u4, u5, .int .i64 (n : Int), .slice (some ⟨tt, 0, none⟩) L.length c2, .slice OA ON OC, .pointer (some ⟨rb, 0, none⟩), v, u11, undef, undef, undef, undef, undef, undef, undef, undef, undef, undef, undef, undef, undef, undef, undef, undef, undef, undef, undef, undef, undef, undef, undef, undef, undef, u37, u38, u39, u40, u41, u42, u43, u44, u45, u46, u47, u48, u49, u50, u51, u52, u53, u54, u55, u56, u57, u58, u59, u60, u61, u62, u63, u64, u65, u66, u67, u68, u69, u70, u71, u72, u73, u74, u75, u76, u77, u78, u79, u80, u81, u82, u83, u84, u85, u86, u87, u88, u89, u90, u91, u92, u93, u94, u95, u96, u97, u98, u99, u100, u101, u102, u103, u104, u105, u106, u107, u108, u109, u110, u111, u112, u113, u114, u115, u116, u117, u118, u119, u120, u121, u122, u123, u124, u125, u126, undef, undef, undef, undef, undef, undef, undef, undef, undef, undef, undef, undef, undef, undef, undef, undef, undef, undef, undef, undef, undef, undef, undef, undef, undef, undef, undef, undef, undef, undef, undef, undef, undef, undef, undef, undef, undef, undef, undef, undef, undef, undef, undef, undef, undef, undef, undef, undef, undef, undef, undef, undef, undef, undef, undef, undef, undef, undef, undef, undef, undef, undef, undef, undef, undef, undef, undef, undef, undef, undef, undef, undef, undef, undef, undef, undef, undef, undef, undef, undef, undef, undef, undef, undef, undef, undef, undef, undef, undef, undef, undef, undef, undef, undef, undef, undef, undef, undef, undef, undef, undef, undef, undef, undef, undef, undef, undef, undef, undef, undef, undef, undef, undef, undef, undef, undef, undef, undef, undef, undef, undef, undef, undef, undef, undef, undef, undef, undef, undef, undef, undef, undef, undef, undef, undef, undef, undef, undef, undef, undef, undef, undef, undef, undef, undef, undef, undef, undef, undef, undef, undef, undef, undef, undef, undef, undef, undef, undef, undef, undef, undef, undef, undef, undef, undef, undef, undef, undef, undef, undef, undef, undef, undef, undef, undef, undef, undef, undef, undef, undef, undef, undef, undef, undef, undef, undef, undef, undef, undef, undef, undef, undef, undef, undef, undef, undef, undef, undef, undef, undef, undef, undef, undef, undef, undef, undef, undef, undef, undef, undef, undef, undef, undef, undef, undef, undef, undef, undef, undef, undef, undef, undef, undef, undef, undef, undef, undef, undef, undef, undef, undef, undef, undef, undef, undef, undef, undef, undef, undef, undef, undef, undef, undef, undef, undef, undef, undef, undef, undef, undef, undef, undef, undef, undef, undef, undef, undef, undef, undef, undef, undef, undef, undef, undef, undef, undef, undef, undef, undef, undef, undef, undef, undef, undef, undef, undef, undef, undef, undef, undef, undef, undef, undef, undef, undef, undef, undef, undef, undef, undef, undef, undef, undef, undef, undef, undef, undef], []⟩ w := by
  have hwf : ∀ x ∈ zE, (Lit.int .i64 x).wf = true := fun x hx => by
    have := hEL.rg x hx
    simp [Lit.wf, IntKind.min, IntKind.max, IntKind.signed, IntKind.bits]
    omega
  have hl := hEL.len
  rcases own_row hown with ⟨-, rfl, hz⟩ | ⟨g, c, rfl, -, -, -⟩
  · have hz' : zE = [] := List.eq_nil_of_length_eq_zero hz
    exact rest27_any w0 w hb rb tt c2 n 0 0 ON OC none OA zE zO h0 h1 h2 L E Q hQ hH hh2 hr hT hn ⟨hz, Nat.zero_le _, hwf, .inl ⟨rfl, hz'⟩⟩ (by omega) hEL.es hO hON hcap2 hbl hrb _ _ _ _ _ _ _ _ _ _ _ _ _ _ _ _ _ _ _ _ _ _ _ _ _ _ _ _ _ _ _ _ _ _ _ _ _ _ _ _ _ _ _ _ _ _ _ _ _ _ _ _ _ _ _ _ _ _ _ _ _ _ _ _ _ _ _ _ _ _ _ _ _ _ _ _ _ _ _ _ _ _ _ _ _ _ _ _ _ _ _ _ _ _ _
  · exact rest27_any w0 w hb rb tt c2 n zE.length c ON OC (some ⟨g, 0, none⟩) OA zE zO h0 h1 h2 L E Q hQ hH hh2 hr hT hn (ints_of_own hown rfl (by unfold maxLen; omega) hwf) (by omega) hEL.es hO hON hcap2 hbl hrb _ _ _ _ _ _ _ _ _ _ _ _ _ _ _ _ _ _ _ _ _ _ _ _ _ _ _ _ _ _ _ _ _ _ _ _ _ _ _ _ _ _ _ _ _ _ _ _ _ _ _ _ _ _ _ _ _ _ _ _ _ _ _ _ _ _ _ _ _ _ _ _ _ _ _ _ _ _ _ _ _ _ _ _ _ _ _ _ _ _ _ _ _ _ _
noncomputable def rest25 : Code := right 13 top
set_option maxHeartbeats 4000000 in
set_option maxRecDepth 1000000 in
theorem rest25_v (w0 w : World) (hb rb tt c2 n ON OC : Nat) (v : Value) (OA : Option Addr) (zE zO : List Int) (h0 h1 h2 : Int) (L : List Tok) (E : Nat → Bool) (Q : Exit → Act → World → Prop)
    (hQ : Hid (∀ (T : Array Value) (w' : World), T.getD 2 undef = .bool true → Below w0.heap.size w0 w' → Q .ret ⟨T, []⟩ w')) (hH : Blk w hb 59 #[.int .u8 h0, .int .u8 h1, .int .u8 h2]) (hh2 : 0 ≤ h2 ∧ h2 ≤ 255) (hr : Rf w rb tt c2 L E 0 0 0) (hT : TB n L) (hn : n ≤ 65536)
    (hown : w.ownsRow w0.heap.size 42 1 v zE.length (intsV zE)) (hEL : EL 6 zE E) (hO : Ints .u8 w0 OA ON zO) (hON : ON ≤ 1048576) (hcap2 : L.length ≤ c2 ∧ c2 ≤ maxLen) (hbl : Below w0.heap.size w0 w) (hrb : w0.heap.size ≤ rb) (u0 u2 u4 u5 u11 u37 u38 u39 u40 u41 u42 u43 u44 u45 u46 u47 u48 u49 u50 u51 u52 u53 u54 u55 u56 u57 u58 u59 u60 u61 u62 u63 u64 u65 u66 u67 u68 u69 u70 u71 u72 u73 u74 u75 u76 u77 u78 u79 u80 u81 u82 u83 u84 u85 u86 u87 u88 u89 u90 u91 u92 u93 u94 u95 u96 u97 u98 u99 u100 u101 u102 u103 u104 u105 u106 u107 u108 u109 u110 u111 : Value) :
    Code.wp Try.prog rest25 Q ⟨#[u0, undef, u2, .pointer (some ⟨hb, 0, none⟩), u4, u5, .int .i64 (n : Int), .slice (some ⟨tt, 0, none⟩) L.length c2, .slice OA ON OC, .pointer (some ⟨rb, 0, none⟩), v, u11, undef, undef, undef, undef, undef, undef, undef, undef, undef, undef, undef, undef, undef, undef, undef, undef, undef, undef, undef, undef, undef, undef, undef, undef, undef, u37, u38, u39, u40, u41, u42, u43, u44, u45, u46, u47, u48, u49, u50, u51, u52, u53, u54, u55, u56, u57, u58, u59, u60, u61, u62, u63, u64, u65, u66, u67, u68, u69, u70, u71, u72, u73, u74, u75, u76, u77, u78, u79, u80, u81, u82, u83, u84, u85, u86, u87, u88, u89, u90, u91, u92, u93, u94, u95, u96, u97, u98, u99, u100, u101, u102, u103, u104, u105, u106, u107, u108, u109, u110, u111, undef, undef, undef, undef, undef, undef, undef, undef, undef, undef, undef, undef, undef, undef, undef, undef, undef, undef, undef, undef, undef, undef, undef, undef, undef, undef, undef, undef, undef, undef, undef, undef, undef, undef, undef, undef, undef, undef, undef, undef, undef, undef, undef, undef, undef, undef, undef, undef, undef, undef, undef, undef, undef, undef, undef, undef, undef, undef, undef, undef, undef, undef, undef, undef, undef, undef, undef, undef, undef, undef, undef, undef, undef, undef, undef, undef, undef, undef, undef, undef, undef, undef, undef, undef, undef, undef, undef, undef, undef, undef, undef, undef, undef, undef, undef, undef, undef, undef, undef, undef, undef, undef, undef, undef, undef, undef, undef, undef, undef, undef, undef, undef, undef, undef, undef, undef, undef, undef, undef, undef, undef, undef, undef, undef, undef, undef, undef, undef, undef, undef, undef, undef, undef, undef, undef, undef, undef, undef, undef, undef, undef, undef, undef, undef, undef, undef, undef, undef, undef, undef, undef, undef, undef, undef, undef, undef, undef, undef, undef, undef, undef, undef, undef, undef, undef, undef, undef, undef, undef, undef, undef, undef, undef, undef, undef, undef, undef, undef, undef, undef, undef, undef, undef, undef, undef, undef, undef, undef, undef, undef, undef, undef, undef, undef, undef, undef, undef, undef, undef, undef, undef, undef, undef, undef, undef, undef, undef, undef, undef, undef, undef, undef, undef, undef, undef, undef, undef, undef, undef, undef, undef, undef, undef, undef, undef, undef, undef, undef, undef, undef, undef, undef, undef, undef, undef, undef, undef, undef, undef, undef, undef, undef, undef, undef, undef, undef, undef, undef, undef, undef, undef, undef, undef, undef, undef, undef, undef, undef, undef, undef, undef, undef, undef, undef, undef, undef, undef, undef, undef, undef, undef, undef, undef, undef, undef, undef, undef, undef, undef, undef, undef, undef, undef, undef, undef, undef, undef, undef, undef, undef, undef, undef, undef, undef, undef, undef, undef, undef, undef, undef, undef, undef, undef, undef, undef, undef, undef, undef, undef, undef, undef, undef], []⟩ w := by
  obtain ⟨i0, hi, hz0, hz1, hz2⟩ := info_parts Up.tokInfo
  have HT := Lib.hid hT
  have HO := Lib.hid hO
  have HEL := Lib.hid hEL
  have x0 := hH.cell 0
  simp at x0
  have hEl := hEL.len
  have hsz := hbl.size
  have hne1 := own_ne_blk hown hH (by decide)
  have hne2 := own_ne_blk hown hr.blk (by decide)
  have hne3 := own_ne_row hown hr.row (by decide)
  have hrow := own_row hown
  have HOWN := Lib.hid hown
  clear hT hO hEL
  rcases hrow with ⟨-, rfl, hz⟩ | ⟨g, c, rfl, -, hgb, hrow⟩
  · conv => arg 2; whnf
    go_upto_region 25 with (fail)
    rename_i K2 hK2 K1 hK1
    have HK2 := Lib.hid hK2
    clear hK2
    go_wp2_with fail
    all_goals
      clear x0
      refine HK2.out _ _ ?_
      exact rest27_v w0 _ hb rb tt c2 n ON OC _ OA zE zO h0 h1 h2 L E Q hQ hH hh2 hr HT.out hn HOWN.out (HEL.out.mono (by omega)) HO.out hON hcap2 hbl hrb _ _ _ _ _ _ _ _ _ _ _ _ _ _ _ _ _ _ _ _ _ _ _ _ _ _ _ _ _ _ _ _ _ _ _ _ _ _ _ _ _ _ _ _ _ _ _ _ _ _ _ _ _ _ _ _ _ _ _ _ _ _ _ _ _ _ _ _ _ _ _ _ _ _ _ _ _ _ _ _ _ _ _ _ _ _ _ _ _ _ _ _ _ _ _
  · by_cases hz : zE.length = 0
    · obtain rfl : zE = [] := List.eq_nil_of_length_eq_zero hz
      simp only [List.length_nil] at *
      conv => arg 2; whnf
      go_upto_region 25 with (fail)
      rename_i K2 hK2 K1 hK1
      have HK2 := Lib.hid hK2
      clear hK2
      go_wp2_with fail
      all_goals
        clear x0
        refine HK2.out _ _ ?_
        exact rest27_v w0 _ hb rb tt c2 n ON OC _ OA [] zO h0 h1 h2 L E Q hQ hH hh2 hr HT.out hn HOWN.out (HEL.out.mono (by omega)) HO.out hON hcap2 hbl hrb _ _ _ _ _ _ _ _ _ _ _ _ _ _ _ _ _ _ _ _ _ _ _ _ _ _ _ _ _ _ _ _ _ _ _ _ _ _ _ _ _ _ _ _ _ _ _ _ _ _ _ _ _ _ _ _ _ _ _ _ _ _ _ _ _ _ _ _ _ _ _ _ _ _ _ _ _ _ _ _ _ _ _ _ _ _ _ _ _ _ _ _ _ _ _
    · have hzi : 0 < zE.length := by omega
      have hzi2 : (0 : Int) < (zE.length : Int) := by omega
      have e0 : w.cell? ⟨g, 0, none⟩ = some (.int .i64 (zE.getD 0 0)) := hrow.cell (by simp [intsV, List.getElem?_eq_getElem hzi])
      have hmem : zE.getD 0 0 ∈ zE := by rw [List.getD_eq_getElem?_getD, List.getElem?_eq_getElem hzi]; simp
      generalize zE.getD 0 0 = x at e0 hmem
      have HMEM := Lib.hid hmem
      clear hmem hz
      conv => arg 2; whnf
      go_upto_region 25 with (fail)
      rename_i K2 hK2 K1 hK1
      have HK2 := Lib.hid hK2
      clear hK2
      go_wp2_with (at_builtin; (refine wpList_append_lies _ rfl _ _ 38 rfl w0.heap.size 42 i0 _ 1 8 Try.underlying38 hi hz0 hz1 hz2 rfl (by omega) (.slice (some ⟨g, 0, none⟩) zE.length c) zE.length (intsV zE) rfl (hown.alloc _) ⟨w.heap.size, 0, none⟩ 1 1 [.int .i64 x] rfl rfl (World.news_of_block (heap_alloc_new _ _)) (by simp [Value.oneCell']) (by omega) (by unfold maxLen; omega) (by omega) (by simp; omega) (w.heap.size + 1) (by simp) ?_); intro g2 cap2 w9 hown9 hg9 hat hlt9; have hH9 := (hH.alloc _).grown hg9 hne1; have hf9 := (hr.alloc _).grown hg9 hne2 hne3; have hb9 : Below w0.heap.size w0 w9 := (hbl.alloc hsz _).grown hg9 (by simp; omega) (own_base hown); clear hat hlt9 hg9)
      · clear x0 e0
        refine HK2.out _ _ ?_
        exact rest27_v w0 _ hb rb tt c2 n ON OC _ OA zE zO h0 h1 h2 L E Q hQ hH hh2 hr HT.out hn HOWN.out (HEL.out.mono (by omega)) HO.out hON hcap2 hbl hrb _ _ _ _ _ _ _ _ _ _ _ _ _ _ _ _ _ _ _ _ _ _ _ _ _ _ _ _ _ _ _ _ _ _ _ _ _ _ _ _ _ _ _ _ _ _ _ _ _ _ _ _ _ _ _ _ _ _ _ _ _ _ _ _ _ _ _ _ _ _ _ _ _ _ _ _ _ _ _ _ _ _ _ _ _ _ _ _ _ _ _ _ _ _ _
      · clear x0 e0
        refine HK2.out _ _ ?_
        refine rest27_v w0 _ hb rb tt c2 n ON OC _ OA (zE ++ [x]) zO h0 h1 h2 L E Q hQ hH9 hh2 hf9 HT.out hn ?_ (HEL.out.dup x HMEM.out) HO.out hON hcap2 hb9 hrb _ _ _ _ _ _ _ _ _ _ _ _ _ _ _ _ _ _ _ _ _ _ _ _ _ _ _ _ _ _ _ _ _ _ _ _ _ _ _ _ _ _ _ _ _ _ _ _ _ _ _ _ _ _ _ _ _ _ _ _ _ _ _ _ _ _ _ _ _ _ _ _ _ _ _ _ _ _ _ _ _ _ _ _ _ _ _ _ _ _ _ _ _ _ _
        have e : (zE ++ [x]).length = zE.length + 1 := by simp
        rw [e]
        have e2 : intsV zE ++ [Value.int .i64 x] = intsV (zE ++ [x]) := by simp [intsV]
        rwa [e2] at hown9
noncomputable def rest14 : Code := right 9 top
set_option maxHeartbeats 4000000 in
set_option maxRecDepth 1000000 in
theorem rest14_any (w0 w : World) (hb n tt c2 ON OC : Nat) (OA : Option Addr) (zO : List Int) (h0 h1 h2 : Int) (L : List Tok) (Q : Exit → Act → World → Prop)
    (hQ : Hid (∀ (T : Array Value) (w' : World), T.getD 2 undef = .bool true → Below w0.heap.size w0 w' → Q .ret ⟨T, []⟩ w')) (hH : Blk w hb 59 #[.int .u8 h0, .int .u8 h1, .int .u8 h2]) (hh0 : 0 ≤ h0 ∧ h0 ≤ 255) (hh2 : 0 ≤ h2 ∧ h2 ≤ 255)
    (hT : TB n L) (hrow : Row w tt 46 (toksCells L)) (hn : n ≤ 65536) (hO : Ints .u8 w0 OA ON zO) (hON : ON ≤ 1048576) (hcap2 : L.length ≤ c2 ∧ c2 ≤ maxLen) (hbl : Below w0.heap.size w0 w) (u0 u2 u4 u5 u37 u38 u39 u40 u41 u42 u43 u44 u45 u46 u47 u48 u49 u50 u51 u52 u53 u54 u55 u56 u57 u58 u59 u60 u61 u62 u63 u64 u65 u66 u67 u68 u69 u70 u71 u72 u73 u74 u75 u76 : Value) :
    Code.wp Try.prog rest14 Q ⟨#[u0, undef, u2, .pointer (some ⟨hb, 0, none⟩), u4, u5, .int .i64 (n : Int), .slice (some ⟨tt, 0, none⟩) L.length c2, .slice OA ON OC, undef, undef, undef, undef, undef, undef, undef, undef, undef, undef, undef, undef, undef, undef, undef, undef, undef, undef, undef, undef, undef, undef, undef, undef, undef, undef, undef, undef, u37, u38, u39, u40, u41, u42, u43, u44, u45, u46, u47, u48, u49, u50, u51, u52, u53, u54, u55, u56, u57, u58, u59, u60, u61, u62, u63, u64, u65, u66, u67, u68, u69, u70, u71, u72, u73, u74, u75, u76, undef, undef, undef, undef, undef, undef, undef, undef, undef, undef, undef, undef, undef, undef, undef, undef, undef, undef, undef, undef, undef, undef, undef, undef, undef, undef, undef, undef, undef, undef, undef, undef, undef, undef, undef, undef, undef, undef, undef, undef, undef, undef, undef, undef, undef, undef, undef, undef, undef, undef, undef, undef, undef, undef, undef, undef, undef, undef, undef, undef, undef, undef, undef, undef, undef, undef, undef, undef, undef, undef, undef, undef, undef, undef, undef, undef, undef, undef, undef, undef, undef, undef, undef, undef, undef, undef, undef, undef, undef, undef, undef, undef, undef, undef, undef, undef, undef, undef, undef, undef, undef, undef, undef, undef, undef, undef, undef, undef, undef, undef, undef, undef, undef, undef, undef, undef, undef, undef, undef, undef, undef, undef, undef, undef, undef, undef, undef, undef, undef, undef, undef, undef, undef, undef, undef, undef, undef, undef, undef, undef, undef, undef, undef, undef, undef, undef, undef, undef, undef, undef, undef, undef, undef, undef, undef, undef, undef, undef, undef, undef, undef, undef, undef, undef, undef, undef, undef, undef, undef, undef, undef, undef, undef, undef, undef, undef, undef, undef, undef, undef, undef, undef, undef, undef, undef, undef, undef, undef, undef, undef, undef, undef, undef, undef, undef, undef, undef, undef, undef, undef, undef, undef, undef, undef, undef, undef, undef, undef, undef, undef, undef, undef, undef, undef, undef, undef, undef, undef, undef, undef, undef, undef, undef, undef, undef, undef, undef, undef, undef, undef, undef, undef, undef, undef, undef, undef, undef, undef, undef, undef, undef, undef, undef, undef, undef, undef, undef, undef, undef, undef, undef, undef, undef, undef, undef, undef, undef, undef, undef, undef, undef, undef, undef, undef, undef, undef, undef, undef, undef, undef, undef, undef, undef, undef, undef, undef, undef, undef, undef, undef, undef, undef, undef, undef, undef, undef, undef, undef, undef, undef, undef, undef, undef, undef, undef, undef, undef, undef, undef, undef, undef, undef, undef, undef, undef, undef, undef, undef, undef, undef, undef, undef, undef, undef, undef, undef, undef, undef, undef, undef, undef, undef, undef, undef, undef, undef, undef, undef, undef, undef, undef, undef, undef, undef, undef, undef, undef, undef, undef, undef, undef, undef, undef, undef, undef, undef, undef], []⟩ w := by
  obtain ⟨i0, hi, hz0, hz1, hz2⟩ := info_parts Up.tokInfo
  have HT := Lib.hid hT
  have HO := Lib.hid hO
  have hw := hbl.size
  have hb0 : Below w0.heap.size w0 (w.alloc (.cells (rfCells tt L.length c2 (fun _ => false) 0 0 0) 64)) := hbl.alloc hw _
  clear hT hO
  conv => arg 2; whnf
  go_wp2_with fail
  have hrb : w0.heap.size ≤ w.heap.size := hw
  have hH0 := hH.alloc (.cells (rfCells tt L.length c2 (fun _ => false) 0 0 0) 64)
  have hf0 : Rf (w.alloc (.cells (rfCells tt L.length c2 (fun _ => false) 0 0 0) 64)) w.heap.size tt c2 L (fun _ => false) 0 0 0 := ⟨Blk.new w _ _, hrow.alloc _⟩
  unfold rfCells at hH0 hf0 hb0
  obtain ⟨rb, hrbd⟩ : ∃ x, x = w.heap.size := ⟨_, rfl⟩
  rw [← hrbd] at hf0 hrb ⊢
  clear hH hrow hbl hw hrbd
  go_loopg [10, 11] 5 (fun k v i wr => ∃ (j : Nat) (zE : List Int) (E : Nat → Bool), k = 5 - j ∧ j ≤ 5 ∧ i = .int .i64 j ∧ EL j zE E ∧ Blk wr hb 59 #[.int .u8 h0, .int .u8 h1, .int .u8 h2] ∧ Rf wr rb tt c2 L E 0 0 0 ∧ wr.ownsRow w0.heap.size 42 1 v zE.length (intsV zE) ∧ Below w0.heap.size w0 wr)
  case atStart => exact ⟨0, [], fun _ => false, rfl, by omega, rfl, EL.nil, hH0, hf0, World.ownsRow_nil _ _ _ _, hb0⟩
  case round =>
    clear hH0 hf0 hb0
    obtain ⟨j, zE, E, hk, hj, rfl, hEL, hH, hf, hown, hbl⟩ := hrel
    have KK := Lib.hid hk; clear hk
    have HEL := Lib.hid hEL
    have x0 := hH.cell 0
    simp at x0
    by_cases hlt : j < 5
    · have hj0 : (0 : Int) ≤ (j : Int) := by omega
      have hj1 : (j : Int) < 5 := by omega
      go_upto_region 20 with (fail)
      · clear x0
        have hsz := hbl.size
        have hfl := hf.blk.lt
        have hEl := hEL.len
        have hne1 := own_ne_blk hown hH (by decide)
        have hne2 := own_ne_blk hown hf.blk (by decide)
        have hne3 := own_ne_row hown hf.row (by decide)
        go_wp2_with (at_builtin; refine wpList_append_lies _ rfl _ _ 38 rfl w0.heap.size 42 i0 _ 1 8 Try.underlying38 hi hz0 hz1 hz2 rfl (by omega) u10 zE.length (intsV zE) rfl (hown.alloc _) ⟨wr.heap.size, 0, none⟩ 1 1 [.int .i64 (j : Int)] rfl rfl (World.news_of_block (heap_alloc_new _ _)) (by simp [Value.oneCell']) (by omega) (by unfold maxLen; omega) (by omega) (by simp; omega) (wr.heap.size + 1) (by simp) ?_; intro g2 cap2 w9 hown9 hg9 hat hlt9; have hH9 := (hH.alloc _).grown hg9 hne1; have hf9 := (hf.alloc _).grown hg9 hne2 hne3; have hb9 : Below w0.heap.size w0 w9 := (hbl.alloc hsz _).grown hg9 (by simp; omega) (own_base hown); have hce := hf9.el (N := j + 1) (by omega); have hfz := hf9.blk.frozen (1 + (j + 1)); have htn : ((j : Int) + 1).toNat = j + 1 := (by omega); clear hat hlt9 hg9 hown)
        clear htn
        go_roundg (5 - (j + 1))
        case measure => rw [KK.out]; omega
        case rel =>
          refine ⟨j + 1, zE ++ [(j : Int)], _, rfl, by omega, by go_num, HEL.out.add (j : Int) (j + 1) (by omega) (by omega), hH9.far (p := ⟨rb, 1 + (j + 1), none⟩) (by intro e; exact hH9.ne hf9.blk (by decide) e) _, hf9.setEl (N := j + 1) (by omega), ?_, hb9.setCell (p := ⟨rb, 1 + (j + 1), none⟩) hrb _⟩
          have := own_far hown9 hf9.blk (by decide) (1 + (j + 1)) (.bool true)
          have e : (zE ++ [(j : Int)]).length = zE.length + 1 := by simp
          rw [e]
          have e2 : intsV zE ++ [Value.int .i64 (j : Int)] = intsV (zE ++ [(j : Int)]) := by simp [intsV]
          rwa [e2] at this
      · clear x0
        go_roundg (5 - (j + 1))
        case measure => rw [KK.out]; omega
        case rel => exact ⟨j + 1, zE, E, rfl, by omega, by go_num, HEL.out.mono (by omega), hH, hf, hown, hbl⟩
    · obtain rfl : j = 5 := by omega
      clear hlt hj
      have hsz := hbl.size
      have hEl := hEL.len
      have hne1 := own_ne_blk hown hH (by decide)
      have hne2 := own_ne_blk hown hf.blk (by decide)
      have hne3 := own_ne_row hown hf.row (by decide)
      have x0 := hH.cell 0
      simp at x0
      go_upto_region 22 with (fail)
      rename_i K2 hK2 K1 hK1
      have HK2 := Lib.hid hK2
      clear hK2
      go_wp2_with (at_builtin; refine wpList_append_lies _ rfl _ _ 38 rfl w0.heap.size 42 i0 _ 1 8 Try.underlying38 hi hz0 hz1 hz2 rfl (by omega) u10 zE.length (intsV zE) rfl (hown.alloc _) ⟨wr.heap.size, 0, none⟩ 1 1 [.int .i64 (-1)] rfl rfl (World.news_of_block (heap_alloc_new _ _)) (by simp [Value.oneCell']) (by omega) (by unfold maxLen; omega) (by omega) (by simp; omega) (wr.heap.size + 1) (by simp) ?_; intro g2 cap2 w9 hown9 hg9 hat hlt9; have hH9 := (hH.alloc _).grown hg9 hne1; have hf9 := (hf.alloc _).grown hg9 hne2 hne3; have hb9 : Below w0.heap.size w0 w9 := (hbl.alloc hsz _).grown hg9 (by simp; omega) (own_base hown); have hce := hf9.el (N := 0) (by omega); have hfz := hf9.blk.frozen (1 + 0); simp only [Nat.add_zero] at hce hfz; clear hat hlt9 hg9 hown)
      · clear x0 hce hfz
        refine HK2.out _ _ ?_
        refine rest25_v w0 _ hb rb tt c2 n ON OC _ OA (zE ++ [-1]) zO h0 h1 h2 L (fun k => k == 0 || E k) Q hQ (hH9.far (p := ⟨rb, 1 + 0, none⟩) (by intro e; exact hH9.ne hf9.blk (by decide) e) _) hh2 (hf9.setEl (N := 0) (by omega)) HT.out hn ?_ (HEL.out.add (-1) 0 (by omega) (by omega)) HO.out hON hcap2 (hb9.setCell (p := ⟨rb, 1 + 0, none⟩) hrb _) hrb _ _ _ _ _ _ _ _ _ _ _ _ _ _ _ _ _ _ _ _ _ _ _ _ _ _ _ _ _ _ _ _ _ _ _ _ _ _ _ _ _ _ _ _ _ _ _ _ _ _ _ _ _ _ _ _ _ _ _ _ _ _ _ _ _ _ _ _ _ _ _ _ _ _ _ _ _ _ _ _
        have := own_far hown9 hf9.blk (by decide) (1 + 0) (.bool true)
        have e : (zE ++ [(-1 : Int)]).length = zE.length + 1 := by simp
        rw [e]
        have e2 : intsV zE ++ [Value.int .i64 (-1)] = intsV (zE ++ [(-1 : Int)]) := by simp [intsV]
        rwa [e2] at this
      · clear x0
        refine HK2.out _ _ ?_
        exact rest25_v w0 _ hb rb tt c2 n ON OC _ OA zE zO h0 h1 h2 L E Q hQ hH hh2 hf HT.out hn hown (HEL.out.mono (by omega)) HO.out hON hcap2 hbl hrb _ _ _ _ _ _ _ _ _ _ _ _ _ _ _ _ _ _ _ _ _ _ _ _ _ _ _ _ _ _ _ _ _ _ _ _ _ _ _ _ _ _ _ _ _ _ _ _ _ _ _ _ _ _ _ _ _ _ _ _ _ _ _ _ _ _ _ _ _ _ _ _ _ _ _ _ _ _ _ _
set_option maxHeartbeats 4000000 in
set_option maxRecDepth 1000000 in
theorem rest12_any (w0 w : World) (hb n RN RC : Nat) (RA : Option Addr) (zR : List Int) (h0 h1 h2 : Int) (Q : Exit → Act → World → Prop)
    (hQ : Hid (∀ (T : Array Value) (w' : World), T.getD 2 undef = .bool true → Below w0.heap.size w0 w' → Q .ret ⟨T, []⟩ w')) (hH : Blk w hb 59 #[.int .u8 h0, .int .u8 h1, .int .u8 h2]) (hh0 : 0 ≤ h0 ∧ h0 ≤ 255) (hh2 : 0 ≤ h2 ∧ h2 ≤ 255)
    (hR : Ints .u8 w0 RA RN zR) (hRN : RN ≤ 1048576) (hRC : RN ≤ RC ∧ RC ≤ maxLen) (hn : n ≤ RN) (hn2 : n ≤ 255) (hbl : Below w0.heap.size w0 w) (hhb : w0.heap.size ≤ hb) (u0 u2 u4 u37 u38 u39 u40 u41 u42 u43 u44 u45 u46 u47 u48 u49 u50 u51 u52 u53 u54 u55 u56 u57 u58 u59 u60 u61 u62 u63 u64 u65 u66 u67 u68 u69 : Value) :
    Code.wp Try.prog rest12 Q ⟨#[u0, undef, u2, .pointer (some ⟨hb, 0, none⟩), u4, .slice RA RN RC, .int .i64 (n : Int), undef, undef, undef, undef, undef, undef, undef, undef, undef, undef, undef, undef, undef, undef, undef, undef, undef, undef, undef, undef, undef, undef, undef, undef, undef, undef, undef, undef, undef, undef, u37, u38, u39, u40, u41, u42, u43, u44, u45, u46, u47, u48, u49, u50, u51, u52, u53, u54, u55, u56, u57, u58, u59, u60, u61, u62, u63, u64, u65, u66, u67, u68, u69, undef, undef, undef, undef, undef, undef, undef, undef, undef, undef, undef, undef, undef, undef, undef, undef, undef, undef, undef, undef, undef, undef, undef, undef, undef, undef, undef, undef, undef, undef, undef, undef, undef, undef, undef, undef, undef, undef, undef, undef, undef, undef, undef, undef, undef, undef, undef, undef, undef, undef, undef, undef, undef, undef, undef, undef, undef, undef, undef, undef, undef, undef, undef, undef, undef, undef, undef, undef, undef, undef, undef, undef, undef, undef, undef, undef, undef, undef, undef, undef, undef, undef, undef, undef, undef, undef, undef, undef, undef, undef, undef, undef, undef, undef, undef, undef, undef, undef, undef, undef, undef, undef, undef, undef, undef, undef, undef, undef, undef, undef, undef, undef, undef, undef, undef, undef, undef, undef, undef, undef, undef, undef, undef, undef, undef, undef, undef, undef, undef, undef, undef, undef, undef, undef, undef, undef, undef, undef, undef, undef, undef, undef, undef, undef, undef, undef, undef, undef, undef, undef, undef, undef, undef, undef, undef, undef, undef, undef, undef, undef, undef, undef, undef, undef, undef, undef, undef, undef, undef, undef, undef, undef, undef, undef, undef, undef, undef, undef, undef, undef, undef, undef, undef, undef, undef, undef, undef, undef, undef, undef, undef, undef, undef, undef, undef, undef, undef, undef, undef, undef, undef, undef, undef, undef, undef, undef, undef, undef, undef, undef, undef, undef, undef, undef, undef, undef, undef, undef, undef, undef, undef, undef, undef, undef, undef, undef, undef, undef, undef, undef, undef, undef, undef, undef, undef, undef, undef, undef, undef, undef, undef, undef, undef, undef, undef, undef, undef, undef, undef, undef, undef, undef, undef, undef, undef, undef, undef, undef, undef, undef, undef, undef, undef, undef, undef, undef, undef, undef, undef, undef, undef, undef, undef, undef, undef, undef, undef, undef, undef, undef, undef, undef, undef, undef, undef, undef, undef, undef, undef, undef, undef, undef, undef, undef, undef, undef, undef, undef, undef, undef, undef, undef, undef, undef, undef, undef, undef, undef, undef, undef, undef, undef, undef, undef, undef, undef, undef, undef, undef, undef, undef, undef, undef, undef, undef, undef, undef, undef, undef, undef, undef, undef, undef, undef, undef, undef, undef, undef, undef, undef, undef, undef, undef, undef, undef, undef, undef, undef, undef, undef, undef, undef, undef, undef], []⟩ w := by
  have HR := Lib.hid hR
  have hn0 : (0 : Int) ≤ (n : Int) := by omega
  have hn1 : (n : Int) ≤ (RC : Int) := by omega
  have hn3 : (n : Int) ≤ (RN : Int) := by omega
  clear hR
  conv => arg 2; whnf
  go_wp2_with fail
  refine (toks_any RA n RC (zR.take n) _ ((ints_take HR.out hn).later hbl) (by omega)).mono ?_
  rintro e w1 ⟨L, tt, c2, rfl, hT, htb, hcap2, hrow, hb1⟩
  have hH1 := hH.later hb1
  have hbw1 := below_next hb1 hbl
  have HT := Lib.hid hT
  have HB1 := Lib.hid hbw1
  have HCAP := Lib.hid hcap2
  clear hH hbl hb1 hT hbw1 hcap2
  go_upto_region 13 with (fail)
  rename_i K hK
  have HK := Lib.hid hK
  clear hK
  have hd := ints_drop HR.out hn hRC.1
  have HD := Lib.hid hd
  clear hd
  go_wp2_with fail
  · have h := ‹RC = n›
    have hI := HD.out
    rw [if_pos h] at hI
    refine HK.out _ _ ?_
    exact rest14_any w0 w1 hb n tt c2 (RN - n) _ _ (zR.drop n) h0 h1 h2 L Q hQ hH1 hh0 hh2 HT.out hrow (by omega) hI (by omega) HCAP.out HB1.out _ _ _ _ _ _ _ _ _ _ _ _ _ _ _ _ _ _ _ _ _ _ _ _ _ _ _ _ _ _ _ _ _ _ _ _ _ _ _ _ _ _ _ _
  · have h := ‹¬ RC = n›
    have hI := HD.out
    rw [if_neg h] at hI
    simp only [Nat.mul_one] at hI
    refine HK.out _ _ ?_
    exact rest14_any w0 w1 hb n tt c2 (RN - n) _ _ (zR.drop n) h0 h1 h2 L Q hQ hH1 hh0 hh2 HT.out hrow (by omega) hI (by omega) HCAP.out HB1.out _ _ _ _ _ _ _ _ _ _ _ _ _ _ _ _ _ _ _ _ _ _ _ _ _ _ _ _ _ _ _ _ _ _ _ _ _ _ _ _ _ _ _ _
end Tp
end Go.Proofs.Ytomfonilbenhbaa
