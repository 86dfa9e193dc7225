/-
  The walk of FnUpgradeReplayExact: Upgrade reads the replayed list token for token and stands at its first visible token. Conditions: none beyond the statement's own.
-/
import Derived.Test.YtomfonilbenhbaaU9
namespace Go.Proofs.Ytomfonilbenhbaa
open Go.RowKit
set_option linter.unusedSimpArgs false
set_option linter.unusedVariables false
namespace Up
/-- A table of 512 truth values in memory. -/
def Tab (w : World) (b : Nat) (S : Nat → Bool) : Prop := ∃ cs, Blk w b 55 cs ∧ cs.size = 512 ∧ ∀ i, i < 512 → cs[i]? = some (.bool (S i))
theorem Tab.later {w w' : World} {b : Nat} {S : Nat → Bool} (h : Tab w b S) (hb : Below w.heap.size w w') : Tab w' b S := by
  obtain ⟨cs, h1, h2⟩ := h
  exact ⟨cs, h1.later hb, h2⟩
theorem Tab.drewN {w : World} {b : Nat} {S : Nat → Bool} (h : Tab w b S) (n : Nat) : Tab (w.drewN n) b S := h
theorem Tab.alloc {w : World} {b : Nat} {S : Nat → Bool} (h : Tab w b S) (o : Obj) : Tab (w.alloc o) b S := by
  obtain ⟨cs, h1, h2⟩ := h
  exact ⟨cs, h1.alloc o, h2⟩
theorem Tab.grown {w w' : World} {b : Nat} {S : Nat → Bool} {row : Option Nat} (h : Tab w b S) (hb : w.grownBy w' row) (hg : some b ≠ row) : Tab w' b S := by
  obtain ⟨cs, h1, h2⟩ := h
  exact ⟨cs, h1.grown hb hg, h2⟩
theorem Tab.lt {w : World} {b : Nat} {S : Nat → Bool} (h : Tab w b S) : b < w.heap.size := by
  obtain ⟨cs, h1, h2⟩ := h
  exact h1.lt
theorem Tab.cell {w : World} {b : Nat} {S : Nat → Bool} (h : Tab w b S) {i : Nat} (hi : i < 512) : w.cell? ⟨b, i, none⟩ = some (.bool (S i)) := by
  obtain ⟨cs, h1, -, h2⟩ := h
  exact (h1.cell i).trans (h2 i hi)
theorem Tab.frozen {w : World} {b : Nat} {S : Nat → Bool} (h : Tab w b S) (i : Nat) : w.frozen? ⟨b, i, none⟩ = false := by
  obtain ⟨cs, h1, -⟩ := h
  exact h1.frozen i
theorem Tab.set {w : World} {b : Nat} {S : Nat → Bool} (h : Tab w b S) {i : Nat} (hi : i < 512) : Tab (w.setCell ⟨b, i, none⟩ (.bool true)) b (fun k => k == i || S k) := by
  obtain ⟨cs, h1, h2, h3⟩ := h
  refine ⟨_, h1.set i (.bool true), by simpa using h2, fun k hk => ?_⟩
  rw [Array.getElem?_setIfInBounds]
  by_cases e : i = k
  · subst e; simp [h2, hi]
  · have e' : (k == i) = false := by simpa using Ne.symm e
    rw [if_neg e, h3 k hk]
    show some (Value.bool (S k)) = some (Value.bool (k == i || S k))
    rw [e', Bool.false_or]
theorem Tab.congr {w : World} {b : Nat} {S S' : Nat → Bool} (h : Tab w b S) (hs : ∀ i, S i = S' i) : Tab w b S' := by
  obtain ⟨cs, h1, h2, h3⟩ := h
  exact ⟨cs, h1, h2, fun i hi => by rw [h3 i hi, hs i]⟩
def zero512 : Array Value := (List.replicate 512 (Value.bool false)).toArray
theorem zero512_run (w : World) : (zeroValue 55).run Try.prog w = .ok (.agg zero512) w := by kernel_rfl
theorem Tab.new {w : World} {Z : Array Value} (h : Z = zero512) : Tab (w.alloc (.cells Z 55)) w.heap.size (fun _ => false) := by
  refine ⟨Z, Blk.new w _ _, ?_, fun i hi => ?_⟩
  · rw [h]; unfold zero512; rw [List.size_toArray, List.length_replicate]
  · rw [h]; unfold zero512; rw [List.getElem?_toArray, List.getElem?_replicate, if_pos hi]
/-- The table of an elide list: index y + 256 for each y. -/
def elT (z : List Int) (i : Nat) : Bool := z.any (fun y => y + 256 == (i : Int))
theorem elT_snoc (z : List Int) (j : Nat) (hj : j < z.length) (N : Nat) (hN : z.getD j 0 + 256 = (N : Int)) (i : Nat) : (i == N || elT (z.take j) i) = elT (z.take (j + 1)) i := by
  unfold elT
  rw [take_snocI z j hj, List.any_append]
  simp only [List.any_cons, List.any_nil, Bool.or_false, hN]
  rw [Bool.or_comm]
  congr 1
  rw [Bool.eq_iff_iff]
  simp
  omega
theorem elT_in (z : List Int) (x : Int) (i : Nat) (h : x + 256 = (i : Int)) : elT z i = inS z x := by
  unfold elT inS
  rw [List.contains_eq_any_beq, ← h]
  congr 1
  funext y
  rw [Bool.eq_iff_iff]
  simp
  omega
theorem built_at {z : List Int} {L : List Tok} (h : Built z L) {j : Nat} (hj : j < z.length) : (L.getD j eofTok).ty = z.getD j 0 := by
  rw [← at_types, h]
  simp [PL.at_, List.getD, List.getElem?_append_left hj, List.getElem?_eq_getElem hj]
/-- All that a region of the law loads. -/
theorem held {w W : World} {pb g mb c nm tb : Nat} {L : List Tok} {S : Int → Bool} {raw next cur : Int} {i : Nat} {t : Tok} {x ab : Nat} {S2 : Nat → Bool} (h : Lx W pb g mb c nm L S raw next cur) (hT : Tab W ab S2) (hr : Row W tb 46 (toksCells L)) (hb : Below w.heap.size w W) (ht : Hid (t = L.getD i eofTok)) (hi : i < L.length) (hx : x = i * 6) :
    Lx W pb g mb c nm L S raw next cur ∧ Row W tb 46 (toksCells L) ∧ Below w.heap.size w W ∧ Tab W ab S2 ∧
    W.cell? ⟨pb, 0, none⟩ = some (.int .i64 raw) ∧ W.cell? ⟨pb, 1, none⟩ = some (.int .i64 next) ∧ W.cell? ⟨pb, 2, none⟩ = some (.int .i64 cur) ∧
    W.cell? ⟨g, x, none⟩ = some (.int .i64 t.ty) ∧ W.cell? ⟨g, x + 1, none⟩ = some (.string t.val) ∧ W.cell? ⟨g, x + 1 + 1, none⟩ = some (.string t.fn) ∧ W.cell? ⟨g, x + 1 + 1 + 1, none⟩ = some (.int .i64 t.off) ∧ W.cell? ⟨g, x + 1 + 1 + 1 + 1, none⟩ = some (.int .i64 t.line) ∧ W.cell? ⟨g, x + 1 + 1 + 1 + 1 + 1, none⟩ = some (.int .i64 t.col) ∧
    W.cell? ⟨tb, x, none⟩ = some (.int .i64 t.ty) ∧ W.cell? ⟨tb, x + 1, none⟩ = some (.string t.val) ∧ W.cell? ⟨tb, x + 1 + 1, none⟩ = some (.string t.fn) ∧ W.cell? ⟨tb, x + 1 + 1 + 1, none⟩ = some (.int .i64 t.off) ∧ W.cell? ⟨tb, x + 1 + 1 + 1 + 1, none⟩ = some (.int .i64 t.line) ∧ W.cell? ⟨tb, x + 1 + 1 + 1 + 1 + 1, none⟩ = some (.int .i64 t.col) := by
  obtain ⟨c0, c1, c2, c3, c4⟩ := h.cells
  obtain ⟨d0, d1, d2, d3, d4, d5⟩ := row_tok h.row hi
  obtain ⟨e0, e1, e2, e3, e4, e5⟩ := row_tok hr hi
  subst hx
  rw [ht.out]
  exact ⟨h, hr, hb, hT, c0, c1, c2, d0, d1, d2, d3, d4, d5, e0, e1, e2, e3, e4, e5⟩
end Up
namespace fnUpgradeReplayExact
open Up
set_option maxHeartbeats 4000000 in
set_option maxRecDepth 100000 in
theorem walk (A0 : Option Addr) (n0 c0 : Nat) (z0 : List Int) (A1 : Option Addr) (n1 c1 : Nat) (z1 : List Int) (w : World)
    (ht : Ints .u8 w A0 n0 z0) (he : Ints .i8 w A1 n1 z1) :
    Calls Try.prog 4 #[.slice A0 n0 c0, .slice A1 n1 c1] w fun e w' => e = .returned (.bool true) ∧ Below w.heap.size w w' := by
  have hm0 := ht.2.1
  have hm1 := he.2.1
  have HT := Lib.hid ht; clear ht
  have HE := Lib.hid he; clear he
  by_cases hsmall : n0 ≤ 65536 ∧ n1 ≤ 65536
  case neg =>
    go_enter Try.func4, Try.ntmps4
    go_wp2_with fail
    refine (zzB A0 n0 c0 A1 n1 c1 _ hm0 hm1).mono ?_
    rintro e w1 ⟨b, rfl, rfl⟩
    unfold maxLen at hm0 hm1
    cases b
    · go_wp2_with fail
      go_ret
      exact ⟨rfl, Below.refl _ _⟩
    · go_wp2_with fail
      all_goals first | (exfalso; omega) | (go_ret; exact ⟨rfl, Below.refl _ _⟩)
  obtain ⟨hs0, hs1⟩ := hsmall
  go_enter Try.func4, Try.ntmps4
  go_wp2_with fail
  refine (zzB A0 n0 c0 A1 n1 c1 _ hm0 hm1).mono ?_
  rintro e w0 ⟨b, rfl, rfl⟩
  unfold maxLen at hm0 hm1
  cases b
  · go_wp2_with fail
    go_ret
    exact ⟨rfl, Below.refl _ _⟩
  go_wp2_with fail
  refine (cloneU8 A0 n0 c0 z0 _ HT.out hs0).mono ?_
  rintro e w1 ⟨A0', c0', rfl, hi1, hb1⟩
  have HI1 := Lib.hid hi1; clear hi1
  go_wp2_with fail
  refine (cloneI8 A1 n1 c1 z1 _ (HE.out.later hb1) hs1).mono ?_
  rintro e w2 ⟨A1', c1', rfl, hi2, hb2⟩
  have HI2 := Lib.hid hi2; clear hi2
  go_wp2_with fail
  refine (build_any A0' n0 c0' z0 _ (HI1.out.later hb2) hs0).mono ?_
  rintro e w3 ⟨L, tb, cT, rfl, hL, htb, hrow, hb3⟩
  have hbw3 : Below w.heap.size w w3 := below_next hb3 (below_next hb2 hb1)
  have HLL := Lib.hid (built_len hL)
  have HF := Lib.hid (built_first hL (u8_ne1 HT.out.2.2.1))
  have HW := Lib.hid (built_wf hL HT.out.2.2.1)
  have hlz := HT.out.1
  have hln : L.length ≤ 65537 ∧ 0 < L.length := by rw [HLL.out]; omega
  have HI2' := Lib.hid (HI2.out.later hb3)
  have HR := Lib.hid hrow
  have HBL := Lib.hid hL
  have hzz := zero512_run
  obtain ⟨Z, hZ⟩ : ∃ Z, Z = zero512 := ⟨_, rfl⟩
  rw [← hZ] at hzz
  have HZZ := Lib.hid hZ
  clear hlz hL hb1 hb2 hb3 hrow HI2 hZ
  go_wp2_with fail
  clear hzz
  go_loopg [7] n1 (fun k i wr => ∃ j : Nat, k = n1 - j ∧ j ≤ n1 ∧ i = .int .i64 j ∧ Tab wr w3.heap.size (elT (z1.take j)) ∧ Below w3.heap.size w3 wr)
  case atStart => exact ⟨0, rfl, Nat.zero_le _, rfl, (Tab.new HZZ.out).congr (fun i => rfl), (Below.refl _ _).alloc (Nat.le_refl _) _⟩
  case round =>
    obtain ⟨j, hk, hj, rfl, htab, hbel⟩ := hrel
    have KK := Lib.hid hk; clear hk
    by_cases hlt : j < n1
    · rcases (HI2'.out.later hbel).split with h | ⟨b, off, rfl, hc⟩
      · exfalso; omega
      · have hcj := hc.out j hlt
        have hwf := HE.out.wf hlt
        have hr : -128 ≤ z1.getD j 0 ∧ z1.getD j 0 ≤ 127 := by
          simp [Lit.wf, IntKind.min, IntKind.max, IntKind.signed, IntKind.bits] at hwf
          simpa using hwf
        obtain ⟨N, hN⟩ : ∃ N : Nat, z1.getD j 0 + 256 = (N : Int) := ⟨(z1.getD j 0 + 256).toNat, by omega⟩
        have HSN := Lib.hid (elT_snoc z1 j (by rw [HE.out.1]; exact hlt) N hN)
        have hN5 : N < 512 := by omega
        clear hwf hc
        generalize z1.getD j 0 = zj at hcj hr hN HSN
        have hi0 : (0 : Int) ≤ (j : Int) := by omega
        have hi1 : (j : Int) < (n1 : Int) := by omega
        have ha0 : (0 : Int) ≤ zj + 256 := by omega
        have ha1 : zj + 256 < 512 := by omega
        have htn : (zj + 256).toNat = N := by omega
        have hcb := htab.cell hN5
        have hfz := htab.frozen N
        clear hN
        go_wp2_with fail
        clear htn
        go_roundg (n1 - (j + 1))
        case measure => rw [KK.out]; omega
        case rel => exact ⟨j + 1, rfl, by omega, by go_num, (htab.set hN5).congr HSN.out, hbel.setCell (p := ⟨w3.heap.size, N, none⟩) (Nat.le_refl _) _⟩
    · obtain rfl : n1 = j := by omega
      clear hlt
      have htab' : Tab wr w3.heap.size (elT z1) := by rwa [List.take_of_length_le (by rw [HE.out.1]; exact Nat.le_refl _)] at htab
      have hdl : decide (n1 < n1) = false := by simp
      have HI3 := Lib.hid (HI2'.out.later hbel)
      have HR3 := Lib.hid (HR.out.later hbel)
      have hbw := below_next hbel hbw3
      obtain ⟨ab, hab⟩ : ∃ x, x = w3.heap.size := ⟨_, rfl⟩
      rw [← hab] at htab'
      have hsz3 := hbw3.size
      have haw : w.heap.size ≤ ab := by omega
      clear htab hbel hbw3 hsz3
      go_wp2_with fail
      rw [← hab]
      clear hab
      have hz0 : Blk (wr.alloc (.cells #[.slice (some ⟨tb, 0, none⟩) L.length cT, .int .i64 0, .int .i64 (-1), .int .i64 0, .pointer none] 32)) wr.heap.size 32 #[.slice (some ⟨tb, 0, none⟩) L.length cT, .int .i64 0, .int .i64 (-1), .int .i64 0, .pointer none] := Blk.new wr _ _
      have hb4 : Below w.heap.size w (wr.alloc (.cells #[.slice (some ⟨tb, 0, none⟩) L.length cT, .int .i64 0, .int .i64 (-1), .int .i64 0, .pointer none] 32)) := hbw.alloc hbw.size _
      have hzw : w.heap.size ≤ wr.heap.size := hbw.size
      refine (el_any A1' n1 c1' z1 (wr.alloc (.cells #[.slice (some ⟨tb, 0, none⟩) L.length cT, .int .i64 0, .int .i64 (-1), .int .i64 0, .pointer none] 32)) (HI3.out.later ((Below.refl _ _).alloc (Nat.le_refl _) _)) hs1).mono ?_
      rintro e w5 ⟨rfl, hown5, hb5⟩
      have hbw5 := below_next hb5 hb4
      have hz5 : Blk w5 wr.heap.size 32 (rpZ tb cT L (-1) (.pointer none) 0) := hz0.later hb5
      have hr5 := (HR3.out.alloc (.cells #[.slice (some ⟨tb, 0, none⟩) L.length cT, .int .i64 0, .int .i64 (-1), .int .i64 0, .pointer none] 32)).later hb5
      have ht5 := (htab'.alloc (.cells #[.slice (some ⟨tb, 0, none⟩) L.length cT, .int .i64 0, .int .i64 (-1), .int .i64 0, .pointer none] 32)).later hb5
      have hiE : Ints .i64 w5 (some ⟨wr.heap.size + 1, 0, none⟩) n1 z1 := by
        have := ints_of_own hown5 HE.out.1 (by unfold maxLen; omega) (i8_wide HE.out.2.2.1)
        simpa using this
      have hazb : ab ≠ wr.heap.size := by have := htab'.lt; omega
      have HZ5 := Lib.hid hz5
      have HR5 := Lib.hid hr5
      have HIE := Lib.hid hiE
      obtain ⟨zb, hzb⟩ : ∃ x, x = wr.heap.size := ⟨_, rfl⟩
      rw [← hzb] at HZ5 HIE hzw hazb
      clear hz0 hb4 hb5 hz5 hr5 hiE hown5 hbw htab'
      go_wp2_with fail
      rw [← hzb]
      clear hzb
      refine (up_any 29 84 zb 32 (rpZ tb cT L (-1) (.pointer none)) tb L _ n1 n1 z1 w5 (rp_src zb tb cT L (-1) (.pointer none) L.length (Nat.le_refl _) (by omega) (fun j hj => by omega)) HIE.out (by omega) HZ5.out HR5.out HF.out (by omega) (by omega) HW.out).mono ?_
      rintro e w6 ⟨pb, g, cg, mb, nm, rfl, hx, hpb, hg, hmb, hcap, hz6, hg6⟩
      have htz : tb ≠ zb := HR5.out.ne_blk HZ5.out (by decide)
      have hr6 := HR5.out.grown hg6 (by intro e; injection e with e; exact htz e)
      have ht6 := ht5.grown hg6 (by intro e; injection e with e; exact hazb e)
      have q3 := hz6.cell 3
      simp [rpZ, rpCells] at q3
      have hb6 : Below w.heap.size w w6 := hbw5.grown hg6 hbw5.size (fun k hk => by injection hk with hk; omega)
      have HX := Lib.hid hx
      have HR6 := Lib.hid hr6
      have HT6 := Lib.hid ht6
      clear hx hg6 hz6 hr6 ht6 ht5 hbw5
      go_wp2_with fail
      refine (range_at w6 pb g L.length cg _ _ _ _ 0 L.length L.length HX.out.blk (Nat.zero_add _) hcap.1 hcap.2).mono ?_
      rintro e w7 ⟨A', c', rfl, rfl, hA'⟩
      obtain rfl := hA' (by omega)
      clear hA' q3
      go_wp2_with fail
      go_loopg [12] L.length (fun q i wx => ∃ j : Nat, q = L.length - j ∧ j ≤ L.length ∧ i = .int .i64 j ∧ ∃ q, wx = w6.drewN q)
      case atStart => exact ⟨0, rfl, Nat.zero_le _, rfl, 0, rfl⟩
      case round =>
        obtain ⟨j, hq, hj, rfl, q0, hq0⟩ := hrel
        have KK := Lib.hid hq; clear hq
        have HQ0 := Lib.hid hq0; clear hq0
        by_cases hlt : j < L.length
        · have hi0 : (0 : Int) ≤ (j : Int) := by omega
          have hi2 : (j : Int) < (L.length : Int) := by omega
          have hr1 := HX.out.row.drewN q0
          have hr2 := HR6.out.drewN q0
          rw [← HQ0.out] at hr1 hr2
          obtain ⟨d0, d1, d2, d3, d4, d5⟩ := row_tok hr1 (i := j) hlt
          obtain ⟨e0, e1, e2, e3, e4, e5⟩ := row_tok hr2 (i := j) hlt
          obtain ⟨t, ht⟩ : ∃ t, t = L.getD j eofTok := ⟨_, rfl⟩
          rw [← ht] at d0 d1 d2 d3 d4 d5 e0 e1 e2 e3 e4 e5
          clear ht hr1 hr2
          go_wp2_with fail
          go_quiet (fail)
          go_wp2_with fail
          go_roundg (L.length - (j + 1))
          case measure => rw [KK.out]; omega
          case rel => exact ⟨j + 1, rfl, by omega, by go_num, _, by rw [HQ0.out, World.drewN_drewN]⟩
        · obtain rfl : L.length = j := by omega
          clear hlt
          have hxq := HX.out.drewN q0
          have hrq := HR6.out.drewN q0
          have htq := HT6.out.drewN q0
          have hbq := below_drewN hb6 q0
          rw [← HQ0.out] at hxq hrq htq hbq
          have hge : decide (L.length < L.length) = false := by simp
          obtain ⟨t, ht⟩ : ∃ t, t = L.getD 0 eofTok := ⟨_, rfl⟩
          have HTT := Lib.hid ht; clear ht
          have hL0 : 0 < L.length := by omega
          have hL0i : (0 : Int) < (L.length : Int) := by omega
          have hxq : Lx wr pb g mb cg nm L (inS z1) 0 ((PL.stop (inS z1) (types L) 0 : Nat) : Int) 0 := hxq
          obtain ⟨nx, hnx⟩ : ∃ x, x = PL.stop (inS z1) (types L) 0 := ⟨_, rfl⟩
          rw [← hnx] at hxq
          have HNX := Lib.hid hnx; clear hnx hge
          go_wp2_with fail
          go_region_held3 (fun w' => Lx w' pb g mb cg nm L (inS z1) 0 nx 0 ∧ Row w' tb 46 (toksCells L) ∧ Below w.heap.size w w' ∧ Tab w' ab (elT z1) ∧ w'.cell? ⟨pb, 0, none⟩ = some (.int .i64 0) ∧ w'.cell? ⟨pb, 1, none⟩ = some (.int .i64 nx) ∧ w'.cell? ⟨pb, 2, none⟩ = some (.int .i64 0) ∧ w'.cell? ⟨g, 0, none⟩ = some (.int .i64 t.ty) ∧ w'.cell? ⟨g, 1, none⟩ = some (.string t.val) ∧ w'.cell? ⟨g, 2, none⟩ = some (.string t.fn) ∧ w'.cell? ⟨g, 3, none⟩ = some (.int .i64 t.off) ∧ w'.cell? ⟨g, 4, none⟩ = some (.int .i64 t.line) ∧ w'.cell? ⟨g, 5, none⟩ = some (.int .i64 t.col) ∧ w'.cell? ⟨tb, 0, none⟩ = some (.int .i64 t.ty) ∧ w'.cell? ⟨tb, 1, none⟩ = some (.string t.val) ∧ w'.cell? ⟨tb, 2, none⟩ = some (.string t.fn) ∧ w'.cell? ⟨tb, 3, none⟩ = some (.int .i64 t.off) ∧ w'.cell? ⟨tb, 4, none⟩ = some (.int .i64 t.line) ∧ w'.cell? ⟨tb, 5, none⟩ = some (.int .i64 t.col))
            (first | assumption | exact held (i := 0) (x := 0) hxq.drew (htq.drewN 1) (hrq.drewN 1) hbq.drew HTT hL0 rfl | (go_split_ands; exact held (i := 0) (x := 0) (Lx.later (by assumption) hbl) (Tab.later (by assumption) hbl) (Row.later (by assumption) hbl) (below_next hbl (by assumption)) HTT hL0 rfl) | (go_split_ands; exact held (i := 0) (x := 0) (Lx.drewN (by assumption) _) (Tab.drewN (by assumption) _) (Row.drewN (by assumption) _) (below_drewN (by assumption) _) HTT hL0 rfl))
            (first
              | (go_at_call 21; refine (cursor_any _ _ _ _).mono ?_; rintro e w8 ⟨rfl, hbl⟩)
              | (go_at_call 22; refine (rawCursor_any _ _ _ _).mono ?_; rintro e w8 ⟨rfl, hbl⟩)
              | (go_at_call 24; refine (rawPeek_any _ pb g mb cg nm L (inS z1) _ _ 0 (by go_split_ands; assumption) hL0).mono ?_; rintro e w8 ⟨rfl, q, rfl⟩))
          obtain ⟨hxR, hrR, hbR, htR, -⟩ := ‹Lx _ pb g mb cg nm L (inS z1) 0 nx 0 ∧ _›
          clear hxq hrq hbq htq HTT
          go_wp2_with fail
          go_loopg [13] L.length (fun q i wx => ∃ j : Nat, q = L.length - j ∧ j < L.length ∧ i = .int .i64 j ∧ PL.stop (inS z1) (types L) j = nx ∧ Lx wx pb g mb cg nm L (inS z1) 0 nx 0 ∧ Row wx tb 46 (toksCells L) ∧ Below w.heap.size w wx ∧ Tab wx ab (elT z1))
          case atStart => exact ⟨0, rfl, hL0, rfl, HNX.out.symm, hxR, hrR, hbR, htR⟩
          case round =>
            clear hxR hrR hbR htR
            obtain ⟨j, hq, hj, rfl, hst, hxR, hrR, hbR, htR⟩ := hrel
            have K2 := Lib.hid hq; clear hq
            have HST := Lib.hid hst; clear hst
            obtain ⟨t, ht⟩ : ∃ t, t = L.getD j eofTok := ⟨_, rfl⟩
            have HTT := Lib.hid ht; clear ht
            have hat : PL.at_ (types L) j = t.ty := by rw [at_types, ← HTT.out]
            have HAT := Lib.hid hat; clear hat
            have hi0 : (0 : Int) ≤ (j : Int) := by omega
            have hi2 : (j : Int) < (L.length : Int) := by omega
            obtain ⟨e0, -, -, -, -, -⟩ := row_tok hrR (i := j) hj
            rw [← HTT.out] at e0
            by_cases hlt : j + 1 < L.length
            · have hji : (j : Int) < (L.length : Int) - 1 := by omega
              have htz : t.ty = z0.getD j 0 := by rw [HTT.out]; exact built_at HBL.out (by have := HLL.out; omega)
              have hwf := HT.out.wf (i := j) (by have := HLL.out; have := HT.out.1; omega)
              rw [← htz] at hwf
              have hr : 0 ≤ t.ty ∧ t.ty ≤ 255 := by
                simp [Lit.wf, IntKind.min, IntKind.max, IntKind.signed, IntKind.bits] at hwf
                simpa using hwf
              obtain ⟨N, hN⟩ : ∃ N : Nat, t.ty + 256 = (N : Int) := ⟨(t.ty + 256).toNat, by omega⟩
              have hin := elT_in z1 t.ty N hN
              have hN5 : N < 512 := by omega
              have hne1 : (t.ty == -1) = false := by simp; omega
              have his : PL.isStop (inS z1) (types L) j = !inS z1 t.ty := by unfold PL.isStop; rw [HAT.out, hne1, Bool.false_or]
              have HIS := Lib.hid his
              have hcb := htR.cell hN5
              rw [hin] at hcb
              have ha0 : (0 : Int) ≤ t.ty + 256 := by omega
              have ha1 : t.ty + 256 < 512 := by omega
              have htn : (t.ty + 256).toNat = N := by omega
              clear hwf htz hin his hne1 hN
              cases hS : inS z1 t.ty with
              | true =>
                rw [hS] at hcb HIS
                clear hS
                go_wp2_with fail
                clear htn
                go_roundg (L.length - (j + 1))
                case measure => rw [K2.out]; omega
                case rel => exact ⟨j + 1, rfl, hlt, by go_num, by rw [← PL.stop_of_not HIS.out]; exact HST.out, hxR, hrR, hbR, htR⟩
              | false =>
                rw [hS] at hcb HIS
                clear hS
                have hjn : nx = j := by rw [← HST.out]; exact PL.stop_of_stop HIS.out
                subst hjn
                go_wp2_with fail
                clear htn hcb e0
                go_region_held3 (fun w' => Lx w' pb g mb cg nm L (inS z1) 0 nx 0 ∧ Row w' tb 46 (toksCells L) ∧ Below w.heap.size w w' ∧ Tab w' ab (elT z1) ∧ w'.cell? ⟨pb, 0, none⟩ = some (.int .i64 0) ∧ w'.cell? ⟨pb, 1, none⟩ = some (.int .i64 nx) ∧ w'.cell? ⟨pb, 2, none⟩ = some (.int .i64 0) ∧ w'.cell? ⟨g, nx * 6, none⟩ = some (.int .i64 t.ty) ∧ w'.cell? ⟨g, nx * 6 + 1, none⟩ = some (.string t.val) ∧ w'.cell? ⟨g, nx * 6 + 1 + 1, none⟩ = some (.string t.fn) ∧ w'.cell? ⟨g, nx * 6 + 1 + 1 + 1, none⟩ = some (.int .i64 t.off) ∧ w'.cell? ⟨g, nx * 6 + 1 + 1 + 1 + 1, none⟩ = some (.int .i64 t.line) ∧ w'.cell? ⟨g, nx * 6 + 1 + 1 + 1 + 1 + 1, none⟩ = some (.int .i64 t.col) ∧ w'.cell? ⟨tb, nx * 6, none⟩ = some (.int .i64 t.ty) ∧ w'.cell? ⟨tb, nx * 6 + 1, none⟩ = some (.string t.val) ∧ w'.cell? ⟨tb, nx * 6 + 1 + 1, none⟩ = some (.string t.fn) ∧ w'.cell? ⟨tb, nx * 6 + 1 + 1 + 1, none⟩ = some (.int .i64 t.off) ∧ w'.cell? ⟨tb, nx * 6 + 1 + 1 + 1 + 1, none⟩ = some (.int .i64 t.line) ∧ w'.cell? ⟨tb, nx * 6 + 1 + 1 + 1 + 1 + 1, none⟩ = some (.int .i64 t.col))
                  (first | assumption | exact held (i := nx) hxR.drew (htR.drewN 1) (hrR.drewN 1) hbR.drew HTT hj rfl | (go_split_ands; exact held (i := nx) (Lx.drewN (by assumption) _) (Tab.drewN (by assumption) _) (Row.drewN (by assumption) _) (below_drewN (by assumption) _) HTT hj rfl))
                  (first | (go_at_call 25; refine (peek_any _ pb g mb cg nm L (inS z1) _ _ nx (by go_split_ands; assumption) hj).mono ?_; rintro e w8 ⟨rfl, q, rfl⟩))
                obtain ⟨-, -, hbE, -⟩ := ‹Lx _ pb g mb cg nm L (inS z1) 0 nx 0 ∧ _›
                go_wp2_with fail
                go_ret
                exact ⟨rfl, hbE⟩
            · have hji : decide ((j : Int) < (L.length : Int) - 1) = false := by simp; omega
              have hjn : nx = j := by
                rw [← HST.out]
                refine PL.stop_of_stop ?_
                have := HF.out.eof
                rw [show L.length - 1 = j by omega] at this
                unfold PL.isStop
                rw [this]; rfl
              subst hjn
              go_wp2_with fail
              clear e0
              go_region_held3 (fun w' => Lx w' pb g mb cg nm L (inS z1) 0 nx 0 ∧ Row w' tb 46 (toksCells L) ∧ Below w.heap.size w w' ∧ Tab w' ab (elT z1) ∧ w'.cell? ⟨pb, 0, none⟩ = some (.int .i64 0) ∧ w'.cell? ⟨pb, 1, none⟩ = some (.int .i64 nx) ∧ w'.cell? ⟨pb, 2, none⟩ = some (.int .i64 0) ∧ w'.cell? ⟨g, nx * 6, none⟩ = some (.int .i64 t.ty) ∧ w'.cell? ⟨g, nx * 6 + 1, none⟩ = some (.string t.val) ∧ w'.cell? ⟨g, nx * 6 + 1 + 1, none⟩ = some (.string t.fn) ∧ w'.cell? ⟨g, nx * 6 + 1 + 1 + 1, none⟩ = some (.int .i64 t.off) ∧ w'.cell? ⟨g, nx * 6 + 1 + 1 + 1 + 1, none⟩ = some (.int .i64 t.line) ∧ w'.cell? ⟨g, nx * 6 + 1 + 1 + 1 + 1 + 1, none⟩ = some (.int .i64 t.col) ∧ w'.cell? ⟨tb, nx * 6, none⟩ = some (.int .i64 t.ty) ∧ w'.cell? ⟨tb, nx * 6 + 1, none⟩ = some (.string t.val) ∧ w'.cell? ⟨tb, nx * 6 + 1 + 1, none⟩ = some (.string t.fn) ∧ w'.cell? ⟨tb, nx * 6 + 1 + 1 + 1, none⟩ = some (.int .i64 t.off) ∧ w'.cell? ⟨tb, nx * 6 + 1 + 1 + 1 + 1, none⟩ = some (.int .i64 t.line) ∧ w'.cell? ⟨tb, nx * 6 + 1 + 1 + 1 + 1 + 1, none⟩ = some (.int .i64 t.col))
                (first | assumption | exact held (i := nx) hxR.drew (htR.drewN 1) (hrR.drewN 1) hbR.drew HTT hj rfl | (go_split_ands; exact held (i := nx) (Lx.drewN (by assumption) _) (Tab.drewN (by assumption) _) (Row.drewN (by assumption) _) (below_drewN (by assumption) _) HTT hj rfl))
                (first | (go_at_call 25; refine (peek_any _ pb g mb cg nm L (inS z1) _ _ nx (by go_split_ands; assumption) hj).mono ?_; rintro e w8 ⟨rfl, q, rfl⟩))
              obtain ⟨-, -, hbE, -⟩ := ‹Lx _ pb g mb cg nm L (inS z1) 0 nx 0 ∧ _›
              go_wp2_with fail
              go_ret
              exact ⟨rfl, hbE⟩
end fnUpgradeReplayExact
end Go.Proofs.Ytomfonilbenhbaa
