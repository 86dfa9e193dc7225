/-
  FnIncludeApplyRulesSplicesIncludedState from the clones on: the map is built. Conditions: no name lies twice; F answers the tape.
-/
import Derived.Test.YtlahcemjknffnaaFmtM9
import Derived.Test.YtlahcemjknffnaaFmtMC
namespace Go.Proofs.YtlahcemjknffnaaFmt
open Go.RowKit Go.Extern.Stop Go.Stop Go.Extern
set_option linter.unusedSimpArgs false
set_option linter.unusedVariables false
namespace fnInc
open fnValidatePush
noncomputable def rest37 : Code := right 11 top
set_option maxHeartbeats 4000000 in
set_option maxRecDepth 1000000 in
theorem rest37_any (F : Interp) (w0 w : World) (A0 A1 : Option Addr) (n0 c0 n1 c1 at_ r : Nat) (z0 : List ByteArray) (z1 : List (List ByteArray)) (t : ByteArray) (Q : Exit → Act → World → Prop) (hF : F.answers w.tape)
    (hQ : Hid (∀ (T : Array Value) (w' : World), T.getD 10 undef = .bool true → Below w0.heap.size w0 w' → Q .ret ⟨T, []⟩ w')) (hS0 : Strs w A0 n0 z0) (hS1 : Alts Strs w A1 n1 z1)
    (hb0 : Below w0.heap.size w0 w) (hd : Dist z0 n0) (ht : t.size ≤ maxLen)
    (hn0 : n0 ≤ 4096) (hn1 : n1 ≤ 4096) (hat : at_ < n0) (hr : r < (z1.getD at_ []).length) (hlen : ∀ i, (z1.getD i []).length ≤ 1048576) (u5 u6 u7 u8 u9 u10 u11 u12 u13 u14 u15 u16 u17 u18 u19 u20 u43 u44 u45 u46 u47 u48 u49 u50 u51 u52 u53 u54 u55 u56 u57 u58 u59 u60 u61 u62 u63 u64 u65 u66 u67 u68 u69 u70 u71 u72 u73 u74 u75 u76 u77 u78 u79 u80 u81 u82 u83 u84 u85 u86 u87 u88 u89 u90 u91 u92 u93 u94 u95 u96 u97 u98 u99 u100 u101 u102 u103 u104 u105 u106 u107 u108 u109 u110 u111 u112 u113 u114 u115 u116 u117 u118 u119 u120 u121 u122 u123 u124 u125 u126 u127 u128 u129 u130 u131 u132 u133 u134 u135 u136 : Value) :
    Code.wp Tryf.prog rest37 Q ⟨#[.slice A0 n0 c0, .slice A1 n1 c1, .int .i64 (at_ : Int), .int .i64 (r : Int), .string t, u5, u6, u7, u8, u9, u10, u11, u12, u13, u14, u15, u16, u17, u18, u19, u20, undef, undef, undef, undef, undef, undef, undef, undef, undef, undef, undef, undef, undef, undef, undef, undef, undef, undef, undef, undef, undef, undef, u43, u44, u45, u46, u47, u48, u49, u50, u51, u52, u53, u54, u55, u56, u57, u58, u59, u60, u61, u62, u63, u64, u65, u66, u67, u68, u69, u70, u71, u72, u73, u74, u75, u76, u77, u78, u79, u80, u81, u82, u83, u84, u85, u86, u87, u88, u89, u90, u91, u92, u93, u94, u95, u96, u97, u98, u99, u100, u101, u102, u103, u104, u105, u106, u107, u108, u109, u110, u111, u112, u113, u114, u115, u116, u117, u118, u119, u120, u121, u122, u123, u124, u125, u126, u127, u128, u129, u130, u131, u132, u133, u134, u135, u136, undef, undef, undef, undef, undef, undef, undef, undef, undef, undef, undef, undef, undef, undef, undef, undef, undef, undef, undef, undef, undef, undef, undef, undef, undef, undef, undef, undef, undef, undef, undef, undef, undef, undef, undef, undef, undef, undef, undef, undef, undef, undef, undef, undef, undef, undef, undef, undef, undef, undef, undef, undef, undef, undef, undef, undef, undef, undef, undef, undef, undef, undef, undef, undef, undef, undef, undef, undef, undef, undef, undef, undef, undef, undef, undef, undef, undef, undef, undef, undef, undef, undef, undef, undef, undef, undef, undef, undef, undef, undef, undef, undef, undef, undef, undef, undef, undef, undef, undef, undef, undef, undef, undef, undef, undef, undef, undef, undef, undef, undef, undef, undef, undef, undef, undef, undef, undef, undef, undef, undef, undef, undef, undef, undef, undef, undef, undef, undef, undef, undef, undef, undef, undef, undef, undef, undef, undef, undef, undef, undef, undef, undef, undef, undef, undef, undef, undef, undef, undef, undef, undef, undef, undef, undef, undef, undef, undef, undef, undef, undef, undef, undef, undef], []⟩ w := by
  obtain ⟨i0, hi, hz0, hz1, hz2⟩ := info_parts ruleInfo
  have hmm := fun W => makeMap_none (P := Tryf.prog) 37 9 38 Tryf.underlying37 W
  have HLEN := Lib.hid hlen
  have HD := Lib.hid hd
  have HF := Lib.hid hF
  have HS1 := Lib.hid hS1
  have HC0 := Lib.hid (cloneStrsF A0 n0 c0 z0 w hS0 (by omega))
  clear hlen hd hF hS0 hS1
  conv => arg 2; whnf
  go_wp2_with fail
  refine HC0.out.mono ?_
  rintro e w2 ⟨B0, d0, rfl, hs0, hb2, -⟩
  have hb02 := below_next hb2 hb0
  have HC1 := Lib.hid (cloneNames A1 n1 c1 z1 w2 (HS1.out.later strs_kept hb2) (by omega) (fun i _ => HLEN.out i))
  have HS0 := Lib.hid hs0
  have HF2 := Lib.hid (show F.answers w2.tape by rw [hb2.tape]; exact HF.out)
  clear hs0 hb0 hb2
  go_wp2_with fail
  refine HC1.out.mono ?_
  rintro e w1 ⟨B1, d1, rfl, hs1, hb1, -⟩
  have hb01 := below_next hb1 hb02
  have HS01 := Lib.hid (HS0.out.later hb1)
  have HS11 := Lib.hid hs1
  have HF1 := Lib.hid (show F.answers w1.tape by rw [hb1.tape]; exact HF2.out)
  have HNA := Lib.hid (names_at B1 n1 d1 z1 at_ w1 hs1 (by omega))
  clear hs1 hb1 hb02
  go_wp2_with fail
  refine HNA.out.mono ?_
  rintro e w5 ⟨Ao, no, co, rfl, rfl, hso⟩
  have HSO := Lib.hid hso
  clear hso
  have hm0 := Mm.made w1
  have hle : w0.heap.size ≤ w1.heap.size := hb01.size
  have hbm0 : Below w1.heap.size w1 (w1.alloc (.map #[] 0)) := (Below.refl _ _).alloc (Nat.le_refl _) _
  obtain ⟨b, hb⟩ : ∃ x, x = w1.heap.size := ⟨_, rfl⟩
  have HB := Lib.hid hb
  rw [← hb] at hm0 hbm0 hle
  go_upto_region 40 with (fail)
  rename_i K5 hK5
  have HK5 := Lib.hid hK5
  clear hK5
  go_wp2_with fail
  rw [← hb]
  refine HK5.out _ _ ?_
  go_upto_region 41 with (fail)
  rename_i K2 hK2 K1 hK1
  have HK2 := Lib.hid hK2
  clear hK2
  go_wp2_with fail
  clear hb hmm
  go_loopg [23, 24, 25, 26, 27, 28, 147] n0 (fun k x23 x24 x25 x26 x27 x28 i wr => ∃ j : Nat, k = n0 - j ∧ j ≤ n0 ∧ i = .int .i64 j ∧ Mm wr b j (nm z0 z1 j) ∧ Below b w1 wr)
  case atStart => exact ⟨0, rfl, Nat.zero_le _, rfl, hm0, hbm0⟩
  case round =>
    clear hm0 hbm0
    obtain ⟨j, hk, hj, rfl, hm, hbl⟩ := hrel
    have KK := Lib.hid hk; clear hk
    have hbl' : Below w1.heap.size w1 wr := by rw [← HB.out]; exact hbl
    by_cases hlt : j < n0
    case pos =>
      have hS0r := HS01.out.later hbl'
      rcases hS0r.split with h | ⟨ba, off, rfl, hc⟩
      · exfalso; omega
      have hcj := hc.out j hlt
      have hsj := hS0r.size j
      have hfr := nm_fresh z0 z1 j n0 HD.out hlt
      have HSTEP : Hid (nm z0 z1 (j + 1) = upd (nm z0 z1 j) (z0.getD j ByteArray.empty) (z1.getD j [])) := Lib.hid rfl
      obtain ⟨sk, hsk⟩ : ∃ x, x = z0.getD j ByteArray.empty := ⟨_, rfl⟩
      rw [← hsk] at hcj hsj hfr HSTEP
      clear hc hsk hS0r
      have hj0 : (0 : Int) ≤ (j : Int) := by omega
      have hj1 : (j : Int) < (n0 : Int) := by omega
      have HNj := Lib.hid (names_at B1 n1 d1 z1 j wr (HS11.out.later strs_kept hbl') (by omega))
      have hbwr : b ≤ wr.heap.size := Nat.le_of_lt hm.lt
      have HLJ := Lib.hid (HLEN.out j)
      obtain ⟨wo, rfl⟩ : ∃ x, x = wr := ⟨_, rfl⟩
      go_wp2_with fail
      refine HNj.out.mono ?_
      rintro e w5 ⟨Ai, ni, ci, rfl, rfl, hsi⟩
      have hni : ni ≤ 1048576 := by have := HLJ.out; rw [hsi.1] at this; exact this
      have HSI := Lib.hid hsi
      clear hsi HNj hcj
      go_wp2_with (at_make; refine wpList_make_full _ rfl _ _ 38 rfl b 45 i0 _ 5 Tryf.underlying38 hi hz0 hz1 _ _ _ _ ni rfl rfl rfl rfl (by rw [hz2]; omega) (by unfold maxLen; omega) hbwr ?_; intro w3 hown3 hg3)
      obtain ⟨zj, hzj⟩ : ∃ x, x = z1.getD j [] := ⟨_, rfl⟩
      rw [← hzj] at HSI HSTEP
      clear hzj HLJ
      obtain ⟨g, hg⟩ : ∃ g, g = wo.heap.size := ⟨_, rfl⟩
      have HG := Lib.hid hg
      have hb3 : Below g wo w3 := by rw [hg]; exact grown_below_none hg3
      rw [made_rc, ← HSI.out.1, ← rmid_zero, HSI.out.1, ← hg] at hown3
      rw [← hg]
      clear hg hg3
      go_wp2_with fail
      go_loopg [27, 28, 160] ni (fun k x27 x28 i wq => ∃ l : Nat, k = ni - l ∧ l ≤ ni ∧ i = .int .i64 l ∧ wq.ownsRow b 45 5 (.slice (some ⟨g, 0, none⟩) ni ni) ni (rc (rmid zj l)) ∧ Below g wo wq)
      case atStart => exact ⟨0, rfl, Nat.zero_le _, rfl, hown3, hb3⟩
      case round =>
        clear hown3 hb3
        obtain ⟨l, hk2, hl, rfl, hown, hbq⟩ := hrel
        have KK2 := Lib.hid hk2; clear hk2
        have hbq' : Below wo.heap.size wo wr := by rw [← HG.out]; exact hbq
        by_cases hlt2 : l < ni
        case pos =>
          rcases (HSI.out.later hbq').split with h | ⟨ba2, off2, rfl, hc2⟩
          · exfalso; omega
          have hcl := hc2.out l hlt2
          have hll : l < zj.length := by rw [HSI.out.1]; exact hlt2
          have hRS := Lib.hid (rmid_set zj l hll)
          have hlen2 : (rmid zj l).length = ni := by rw [rmid_length zj l (Nat.le_of_lt hll), HSI.out.1]
          have HN := Lib.hid (own_set (own_set (own_set (own_set (own_set hown (i := l * 5) (.string (zj.getD l ByteArray.empty))) (i := l * 5 + 1) (.string ByteArray.empty)) (i := l * 5 + 2) .nilIface) (i := l * 5 + 3) (.bool false)) (i := l * 5 + 4) (.pointer none))
          rw [rc_set _ _ l (by rw [hlen2]; exact hlt2), hRS.out] at HN
          have hrw := Row.of_own hown
          have f0 := hrw.frozen (l * 5)
          have f1 := hrw.frozen (l * 5 + 1)
          have f2 := hrw.frozen (l * 5 + 2)
          have f3 := hrw.frozen (l * 5 + 3)
          have f4 := hrw.frozen (l * 5 + 4)
          have c0 : wr.cell? ⟨g, l * 5, none⟩ = some (.string ((rmid zj l).getD l ByteArray.empty)) := hrw.cell (rc_cell (rmid zj l) l 0 (by omega) (by rw [hlen2]; exact hlt2))
          have c1 : wr.cell? ⟨g, l * 5 + 1, none⟩ = some (.string ByteArray.empty) := hrw.cell (rc_cell (rmid zj l) l 1 (by omega) (by rw [hlen2]; exact hlt2))
          have c2 : wr.cell? ⟨g, l * 5 + 2, none⟩ = some (.nilIface) := hrw.cell (rc_cell (rmid zj l) l 2 (by omega) (by rw [hlen2]; exact hlt2))
          have c3 : wr.cell? ⟨g, l * 5 + 3, none⟩ = some (.bool false) := hrw.cell (rc_cell (rmid zj l) l 3 (by omega) (by rw [hlen2]; exact hlt2))
          have c4 : wr.cell? ⟨g, l * 5 + 4, none⟩ = some (.pointer none) := hrw.cell (rc_cell (rmid zj l) l 4 (by omega) (by rw [hlen2]; exact hlt2))
          have hl0 : (0 : Int) ≤ (l : Int) := by omega
          have hl1 : (l : Int) < (ni : Int) := by omega
          generalize (rmid zj l).getD l ByteArray.empty = so at c0
          clear hown hrw hc2
          generalize zj.getD l ByteArray.empty = sl at hcl HN
          go_wp2_with fail
          go_roundg (ni - (l + 1))
          case measure => rw [KK2.out]; omega
          case rel => exact ⟨l + 1, rfl, by omega, by go_num, HN.out, ((((hbq.setCell (p := ⟨g, l * 5, none⟩) (Nat.le_refl _) _).setCell (p := ⟨g, l * 5 + 1, none⟩) (Nat.le_refl _) _).setCell (p := ⟨g, l * 5 + 2, none⟩) (Nat.le_refl _) _).setCell (p := ⟨g, l * 5 + 3, none⟩) (Nat.le_refl _) _).setCell (p := ⟨g, l * 5 + 4, none⟩) (Nat.le_refl _) _⟩
        case neg =>
          obtain rfl : ni = l := by omega
          obtain rfl : zj.length = ni := HSI.out.1
          rw [rmid_full] at hown
          obtain ⟨w3, hrun, hm3, hb3⟩ := hm.put_new hbq' (by unfold maxLen; omega) hsj hfr (by rw [HG.out]; exact Nat.le_refl _) hown
          rw [← HSTEP.out] at hm3
          have hbr : Below b w1 w3 := (hbl.trans ⟨hbq'.os, hbq'.tape, hbq'.output, hbq'.size, fun k hk => hbq'.block k (by omega)⟩).trans hb3
          clear hown hbq hbq' hm hfr hb3 hbl hbl'
          go_wp2_with fail
          go_roundg (n0 - (j + 1))
          case measure => rw [KK.out]; omega
          case rel => exact ⟨j + 1, rfl, by omega, by go_num, hm3, hbr⟩
    case neg =>
      obtain rfl : n0 = j := by omega
      have hb0r : Below w0.heap.size w0 wr := hb01.trans ⟨hbl.os, hbl.tape, hbl.output, hbl.size, fun k hk => hbl.block k (by omega)⟩
      go_wp2_with fail
      refine HK2.out _ _ ?_
      exact rest53_any F w0 w1 wr B0 B1 Ao n0 d0 n1 d1 no co at_ r b z0 z1 t Q (by rw [hbl.tape]; exact HF1.out) hQ HS01.out HS11.out HSO.out HB.out.symm hbl hb0r hle hm HD.out ht hn0 hat (by rw [← HSO.out.1]; exact hr) HLEN.out _ _ _ _ _ _ _ _ _ _ _ _ _ _ _ _ _ _ _ _ _ _ _ _ _ _ _ _ _ _ _ _ _ _ _ _ _ _ _ _ _ _ _ _ _ _ _ _ _ _ _ _ _ _ _ _ _ _ _ _ _ _ _ _ _ _ _ _ _ _ _ _ _ _ _ _ _ _ _ _ _ _ _ _ _ _ _ _ _ _ _ _ _ _ _ _ _ _ _ _ _ _ _ _ _ _ _ _ _ _ _ _ _ _ _ _ _ _ _ _ _ _ _ _ _ _ _ _ _ _ _ _ _ _ _ _ _ _ _ _ _ _ _ _ _ _ _ _ _ _ _ _ _ _ _
end fnInc
end Go.Proofs.YtlahcemjknffnaaFmt
