/-
  FnTop from the sentinel on: the failing lexer, or Upgrade, ConsumeAll and the first comparisons, then the great loop. Conditions: the token row, the naive machine and the elide list are as built.
-/
import Derived.Test.YtomfonilbenhbaaYA
namespace Go.Proofs.Ytomfonilbenhbaa
open Go.RowKit
set_option linter.unusedSimpArgs false
set_option linter.unusedVariables false
namespace Tp
open Up
noncomputable def rest27 : Code := right 14 top
theorem below_fresh {W w' : World} {o : Obj} (h : (W.alloc o).grownBy w' (some W.heap.size)) : Below W.heap.size W w' :=
  ⟨h.os, h.tape, h.output, Nat.le_trans (by simp) h.size, fun i hi => (h.block i (by simp; omega) (by intro e; injection e with e; omega)).trans (Below.heap_alloc W o i hi)⟩
set_option maxHeartbeats 4000000 in
set_option maxRecDepth 1000000 in
theorem rest27_any (w0 w : World) (hb rb tt c2 n EN EC ON OC : Nat) (EA OA : Option Addr) (zE zO : List Int) (h0 h1 h2 : Int) (L : List Tok) (E : Nat → Bool) (Q : Exit → Act → World → Prop)
    (hQ : Hid (∀ (T : Array Value) (w' : World), T.getD 2 undef = .bool true → Below w0.heap.size w0 w' → Q .ret ⟨T, []⟩ w')) (hH : Blk w hb 59 #[.int .u8 h0, .int .u8 h1, .int .u8 h2]) (hh2 : 0 ≤ h2 ∧ h2 ≤ 255) (hr : Rf w rb tt c2 L E 0 0 0) (hT : TB n L) (hn : n ≤ 65536)
    (hI : Ints .i64 w EA EN zE) (hEN : EN ≤ 65536) (hES : ES E (inS zE)) (hO : Ints .u8 w0 OA ON zO) (hON : ON ≤ 1048576) (hcap2 : L.length ≤ c2 ∧ c2 ≤ maxLen) (hbl : Below w0.heap.size w0 w) (hrb : w0.heap.size ≤ rb) (u0 u2 u4 u5 u11 u37 u38 u39 u40 u41 u42 u43 u44 u45 u46 u47 u48 u49 u50 u51 u52 u53 u54 u55 u56 u57 u58 u59 u60 u61 u62 u63 u64 u65 u66 u67 u68 u69 u70 u71 u72 u73 u74 u75 u76 u77 u78 u79 u80 u81 u82 u83 u84 u85 u86 u87 u88 u89 u90 u91 u92 u93 u94 u95 u96 u97 u98 u99 u100 u101 u102 u103 u104 u105 u106 u107 u108 u109 u110 u111 u112 u113 u114 u115 u116 u117 u118 u119 u120 u121 u122 u123 u124 u125 u126 : Value) :
    Code.wp Try.prog rest27 Q ⟨#[u0, undef, u2, .pointer (some ⟨hb, 0, none⟩), u4, u5, .int .i64 (n : Int), .slice (some ⟨tt, 0, none⟩) L.length c2, .slice OA ON OC, .pointer (some ⟨rb, 0, none⟩), .slice EA EN EC, u11, undef, undef, undef, undef, undef, undef, undef, undef, undef, undef, undef, undef, undef, undef, undef, undef, undef, undef, undef, undef, undef, undef, undef, undef, undef, u37, u38, u39, u40, u41, u42, u43, u44, u45, u46, u47, u48, u49, u50, u51, u52, u53, u54, u55, u56, u57, u58, u59, u60, u61, u62, u63, u64, u65, u66, u67, u68, u69, u70, u71, u72, u73, u74, u75, u76, u77, u78, u79, u80, u81, u82, u83, u84, u85, u86, u87, u88, u89, u90, u91, u92, u93, u94, u95, u96, u97, u98, u99, u100, u101, u102, u103, u104, u105, u106, u107, u108, u109, u110, u111, u112, u113, u114, u115, u116, u117, u118, u119, u120, u121, u122, u123, u124, u125, u126, undef, undef, undef, undef, undef, undef, undef, undef, undef, undef, undef, undef, undef, undef, undef, undef, undef, undef, undef, undef, undef, undef, undef, undef, undef, undef, undef, undef, undef, undef, undef, undef, undef, undef, undef, undef, undef, undef, undef, undef, undef, undef, undef, undef, undef, undef, undef, undef, undef, undef, undef, undef, undef, undef, undef, undef, undef, undef, undef, undef, undef, undef, undef, undef, undef, undef, undef, undef, undef, undef, undef, undef, undef, undef, undef, undef, undef, undef, undef, undef, undef, undef, undef, undef, undef, undef, undef, undef, undef, undef, undef, undef, undef, undef, undef, undef, undef, undef, undef, undef, undef, undef, undef, undef, undef, undef, undef, undef, undef, undef, undef, undef, undef, undef, undef, undef, undef, undef, undef, undef, undef, undef, undef, undef, undef, undef, undef, undef, undef, undef, undef, undef, undef, undef, undef, undef, undef, undef, undef, undef, undef, undef, undef, undef, undef, undef, undef, undef, undef, undef, undef, undef, undef, undef, undef, undef, undef, undef, undef, undef, undef, undef, undef, undef, undef, undef, undef, undef, undef, undef, undef, undef, undef, undef, undef, undef, undef, undef, undef, undef, undef, undef, undef, undef, undef, undef, undef, undef, undef, undef, undef, undef, undef, undef, undef, undef, undef, undef, undef, undef, undef, undef, undef, undef, undef, undef, undef, undef, undef, undef, undef, undef, undef, undef, undef, undef, undef, undef, undef, undef, undef, undef, undef, undef, undef, undef, undef, undef, undef, undef, undef, undef, undef, undef, undef, undef, undef, undef, undef, undef, undef, undef, undef, undef, undef, undef, undef, undef, undef, undef, undef, undef, undef, undef, undef, undef, undef, undef, undef, undef, undef, undef, undef, undef, undef, undef, undef, undef, undef, undef, undef, undef, undef, undef, undef, undef, undef, undef, undef, undef, undef, undef, undef, undef, undef, undef, undef, undef, undef, undef, undef, undef, undef, undef, undef, undef, undef], []⟩ w := by
  have HES := Lib.hid hES
  have HT := Lib.hid hT
  have HO := Lib.hid hO
  have hlen : L.length ≤ 65537 ∧ 0 < L.length ∧ n < L.length := by have := hT.len; omega
  have HLN := Lib.hid hT.len
  clear hES hT hO
  conv => arg 2; whnf
  go_wp2_with fail
  refine (err_any _ _).mono ?_
  rintro e w1 ⟨rfl, hb1⟩
  have hH1 := hH.later hb1
  have hr1 := hr.later hb1
  have hI1 := hI.later hb1
  have hbw1 := below_next hb1 hbl
  clear hH hr hI hbl hb1
  obtain ⟨se, hse⟩ : ∃ x, x = w.heap.size := ⟨_, rfl⟩
  rw [← hse]
  clear hse
  have x0 := hH1.cell 0
  have x2 := hH1.cell 2
  simp at x0 x2
  cases hbit : (bits BinOp.and IntKind.u8 h0 128 != 0) with
  | true =>
    obtain ⟨m, hm⟩ : ∃ m : Nat, h2 % ((n : Int) + 1) = (m : Int) := ⟨(h2 % ((n : Int) + 1)).toNat, by have := Int.emod_nonneg h2 (show (n : Int) + 1 ≠ 0 by omega); omega⟩
    have hmn : m ≤ n := by have := Int.emod_lt_of_pos h2 (show (0 : Int) < (n : Int) + 1 by omega); omega
    go_wp2_with fail
    refine (failing_any _ tt c2 L n EA EN EC zE m se hr1.row HT.out hI1 hEN hn hmn hcap2).mono ?_
    rintro e w2 ⟨rfl, hb2⟩
    have hbw2 := below_next hb2 hbw1
    have HB2 := Lib.hid hbw2
    clear hb2 hbw1 hbw2
    go_wp2_with fail
    exact hQ.out _ _ rfl HB2.out
  | false =>
    go_wp2_with fail
    clear x0 x2 hbit hH1
    obtain ⟨zb, hzb⟩ : ∃ x, x = w1.heap.size := ⟨_, rfl⟩
    have hz0 : Blk (w1.alloc (.cells #[.slice (some ⟨tt, 0, none⟩) L.length c2, .int .i64 0, .int .i64 (-1), .iface 110 (.pointer (some ⟨se, 0, none⟩)), .int .i64 0] 70)) zb 70 (slZ tt c2 L (-1) (.iface 110 (.pointer (some ⟨se, 0, none⟩))) 0) := by rw [hzb]; exact Blk.new w1 _ _
    refine (up_any 68 89 w1.heap.size 70 (slZ tt c2 L (-1) (.iface 110 (.pointer (some ⟨se, 0, none⟩)))) tt L EA EN EC zE _ (sl_src w1.heap.size tt c2 L (-1) (.iface 110 (.pointer (some ⟨se, 0, none⟩))) L.length (Nat.le_refl _) (by omega) (fun j hj => by omega)) (hI1.later ((Below.refl _ _).alloc (Nat.le_refl _) _)) (by omega) (Blk.new w1 _ _) (hr1.row.alloc _) HT.out.first (by omega) (by omega) HT.out.wf).mono ?_
    rintro e w2 ⟨pb, g, cg, mb, nm, rfl, hx, hpb, hgb, hmb, hcap, hz2, hg2⟩
    have hb2 := below_fresh hg2
    have hr2 := hr1.later hb2
    have hbw2 := below_next hb2 hbw1
    have hp2 : w0.heap.size ≤ pb := by have := hbw1.size; simp at hpb; omega
    have q4 := hz2.cell 4
    simp [slZ, slCells] at q4
    have HCAP := Lib.hid hcap
    clear hz0 hr1 hI1 hbw1 hg2 hz2 hgb hmb hpb hcap hb2
    rw [← hzb] at q4 ⊢
    clear hzb
    go_wp2_with fail
    clear q4
    refine (con_any 68 89 w2.heap.size 70 (slZ tt c2 L (-1) (.iface 110 (.pointer (some ⟨se, 0, none⟩)))) tt L _ (sl_src w2.heap.size tt c2 L (-1) (.iface 110 (.pointer (some ⟨se, 0, none⟩))) L.length (Nat.le_refl _) (by omega) (fun j hj => by omega)) (Blk.new w2 _ _) (hr2.row.alloc _) HT.out.first (by omega) (by omega)).mono ?_
    rintro e w3 ⟨ga, ca, rfl, hra, -, hg3⟩
    have hb3 := below_fresh hg3
    have hr3 := hr2.later hb3
    have hx3 := hx.later hb3
    have hbw3 := below_next hb3 hbw2
    clear hr2 hx hbw2 hg3 hb3
    obtain ⟨wz2, hwz2⟩ : ∃ x, x = w2.heap.size := ⟨_, rfl⟩
    rw [← hwz2]
    clear hwz2
    go_wp2_with fail
    refine (same_any _ _ _ L.length _ _ 0 0 L L (.inr ⟨ga, rfl, hra, by omega⟩) (.inr ⟨tt, rfl, hr3.row, by omega⟩) (fun j hj => rfl) (by omega)).mono ?_
    rintro e w4 ⟨rfl, q, hq⟩
    have hr4 := hr3.drewN q
    have hx4 := hx3.drewN q
    have hbw4 := below_drewN hbw3 q
    rw [← hq] at hr4 hx4 hbw4
    clear hr3 hx3 hbw3 hq hra
    go_wp2_with fail
    refine (range_at w4 pb g L.length cg _ _ _ _ 0 L.length L.length hx4.blk (Nat.zero_add _) HCAP.out.1 HCAP.out.2).mono ?_
    rintro e w5 ⟨A', c', rfl, rfl, hA'⟩
    obtain rfl := hA' (by omega)
    clear hA'
    go_wp2_with fail
    refine (same_any _ _ _ L.length _ _ 0 0 L L (.inr ⟨g, rfl, hx4.row, by omega⟩) (.inr ⟨tt, rfl, hr4.row, by omega⟩) (fun j hj => rfl) (by omega)).mono ?_
    rintro e w5 ⟨rfl, q, hq⟩
    have hr5 := hr4.drewN q
    have hx5 := hx4.drewN q
    have hbw5 := below_drewN hbw4 q
    rw [← hq] at hr5 hx5 hbw5
    clear hr4 hx4 hbw4 hq
    have hsl : PL.stop (inS zE) (types L) 0 < L.length := by
      have hF := HT.out.first
      have := hF.stop_le (S := inS zE) (Nat.zero_le _)
      omega
    go_wp2_with fail
    refine (radv_any _ rb tt c2 L E (inS zE) 0 0 0 hr5 HES.out (fun j => HT.out.range j) hsl (by omega)).mono ?_
    rintro e w6 ⟨rfl, hg6, hr6⟩
    have hx6 := hx5.grown hg6 (by intro e; injection e with e; exact hx5.blk.ne hr5.blk (by decide) e) (by intro e; injection e with e; exact hx5.row.ne_blk hr5.blk (by decide) e) (by intro e; injection e with e; exact hx5.set.ne_blk hr5.blk e)
    have hbw6 : Below w0.heap.size w0 w6 := hbw5.grown hg6 hbw5.size (fun k hk => by injection hk with hk; omega)
    clear hr5 hx5 hbw5 hg6
    have hr6' : Rf w6 rb tt c2 L E (PL.fresh (inS zE) (types L)).raw (PL.fresh (inS zE) (types L)).next (PL.fresh (inS zE) (types L)).cur := hr6
    clear hr6
    have hG : Good (inS zE) (types L) n (PL.fresh (inS zE) (types L)) := Good.fresh (by have := HT.out.first; rwa [HLN.out, Nat.add_sub_cancel] at this)
    have HG := Lib.hid hG
    have hg1 := hG.raw
    have hg2 := hG.le
    generalize PL.fresh (inS zE) (types L) = s at hr6' hx6 HG hg1 hg2
    clear hG
    go_wp2_with fail
    refine (state_any _ pb g mb cg nm rb tt c2 L (inS zE) E s.raw s.next s.cur hx6 hr6' (by omega) (by omega) (by omega)).mono ?_
    rintro e w7 ⟨rfl, hb7⟩
    have hx7 := hx6.later hb7
    have hr7 := hr6'.later hb7
    have hbw7 := below_next hb7 hbw6
    clear hx6 hr6' hbw6 hb7
    have HR7 := Lib.hid hr7
    have HX7 := Lib.hid hx7
    have HB7 := Lib.hid hbw7
    clear hr7 hx7 hbw7
    go_upto_if 197 with (fail)
    go_step
    go_step
    dsimp only [Exit.then]
    rename_i K hK
    refine hK _ _ ?_
    exact rest42_any w0 _ pb g mb cg nm rb tt c2 ON OC OA zO L (inS zE) E n s Q hQ HX7.out HR7.out HES.out HT.out hn HO.out hON HCAP.out hcap2 HG.out HB7.out hp2 hrb _ _ _ _ _ _ _ _ _ _ _ _ _ _ _ _ _ _ _ _ _ _ _ _ _ _ _ _ _ _ _ _ _ _ _ _ _ _ _ _ _ _ _ _ _ _ _ _ _ _ _ _ _ _ _ _ _ _ _ _ _ _ _ _ _ _ _ _ _ _ _ _ _ _ _ _ _ _ _ _ _ _ _ _ _ _ _ _ _ _ _ _ _ _ _ _ _ _ _ _ _ _ _ _ _ _ _ _ _ _ _ _ _ _ _ _ _ _ _ _ _ _ _ _ _ _ _ _ _ _ _ _ _ _ _ _ _ _ _ _ _ _ _ _ _ _ _ _ _ _ _ _ _ _ _ _ _ _ _ _ _ _ _ _ _ _ _ _ _ _ _ _ _ _
end Tp
end Go.Proofs.Ytomfonilbenhbaa
