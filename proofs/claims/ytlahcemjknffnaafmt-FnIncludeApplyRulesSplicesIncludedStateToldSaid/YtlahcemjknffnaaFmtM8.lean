/-
  The last loop of FnIncludeApplyRulesSplicesIncludedState. Conditions: the map reads as is wanted.
-/
import Derived.Test.YtlahcemjknffnaaFmtM7
import Derived.BigQuiet
namespace Go.Proofs.YtlahcemjknffnaaFmt
open Go.RowKit
set_option linter.unusedSimpArgs false
set_option linter.unusedVariables false
namespace fnInc
open fnValidatePush
def right : Nat → Code → Code
  | 0, c => c
  | k + 1, .seq _ b => right k b
  | _, c => c
theorem drew_drewN (w : World) (q : Nat) : (w.drewN q).drew = w.drewN (q + 1) := rfl
theorem Mm.drewN {w : World} {b k : Nat} {N : ByteArray → Option (List ByteArray)} (h : Mm w b k N) (q : Nat) : Mm (w.drewN q) b k N := h.later (below_drewN (Below.refl _ _) q)
theorem Strs.drewN {w : World} {A : Option Addr} {n : Nat} {z : List ByteArray} (h : Strs w A n z) (q : Nat) : Strs (w.drewN q) A n z := h.later (below_drewN (Below.refl _ _) q)
theorem strs_of_own {w : World} {base g n c : Nat} {z : List ByteArray} (h : w.ownsRow base 9 1 (.slice (some ⟨g, 0, none⟩) n c) n (z.map Value.string)) (hl : z.length = n) (hn : n ≤ maxLen) (hz : ∀ x ∈ z, x.size ≤ maxLen) : Strs w (some ⟨g, 0, none⟩) n z := by
  refine ⟨hl, hn, hz, .inr ⟨g, 0, rfl, (h.lt g rfl).2, fun i hi => ?_⟩⟩
  rw [Nat.zero_add]
  refine (Row.of_own h).cell ?_
  rw [List.getElem?_map, List.getD_eq_getElem?_getD, List.getElem?_eq_getElem (by omega)]
  rfl
theorem snoc_map (pre zs : List ByteArray) (l : Nat) (h : l < zs.length) : (pre ++ zs.take l).map Value.string ++ [.string (zs.getD l ByteArray.empty)] = (pre ++ zs.take (l + 1)).map Value.string := by
  rw [PS.take_snoc zs l h]; simp
theorem one_news {w : World} {o : Value} {t : TypeId} : ∀ (j : Nat) (u : Value), [o][j]? = some u → (w.alloc (.cells #[o] t)).cell? ((⟨w.heap.size, 0, none⟩ : Addr).add j) = some u := by
  intro j u h
  match j with
  | 0 =>
    simp at h
    subst h
    exact cell_new' _ _ _ _ 0 (by simp)
  | j + 1 => simp at h
noncomputable def top : Code := (Tryf.f4.body).getD .skip
noncomputable def rest65 : Code := right 21 top
def EV (hit : Bool) (ev : Value) : Prop := (hit = true ∧ ev = .nilIface) ∨ (hit = false ∧ ∃ p, ev = .iface 58 (.pointer (some ⟨p, 0, none⟩)))
set_option maxHeartbeats 4000000 in
set_option maxRecDepth 1000000 in
theorem rest65_any (w0 w1 w : World) (A0 A1 Ao : Option Addr) (n0 c0 n1 c1 no co at_ r p b : Nat) (z0 : List ByteArray) (z1 : List (List ByteArray)) (ix : Int) (ev : Value) (hit : Bool) (N : ByteArray → Option (List ByteArray)) (Q : Exit → Act → World → Prop)
    (hQ : Hid (∀ (T : Array Value) (w' : World), T.getD 10 undef = .bool true → Below w0.heap.size w0 w' → Q .ret ⟨T, []⟩ w')) (hS0 : Strs w1 A0 n0 z0) (hS1 : Alts Strs w1 A1 n1 z1) (hSo : Strs w1 Ao no (z1.getD at_ []))
    (hb1 : w1.heap.size = b) (hbl : Below b w1 w) (hb0 : Below w0.heap.size w0 w) (hle : w0.heap.size ≤ b) (hm : Mm w b n0 N) (hW : Hid (∀ i, i < n0 → N (z0.getD i ByteArray.empty) = some (want z1 hit at_ r p i)))
    (hn0 : n0 ≤ 4096) (hat : at_ < n0) (hr : r < no) (hno : no ≤ 1048576) (hpl : (z1.getD p []).length ≤ 1048576) (hpp : p ≤ 1048576) (hix : hit = true → ix = (p : Int)) (hev : EV hit ev) (u4 u5 u6 u7 u8 u9 u10 u11 u12 u13 u14 u15 u16 u17 u18 u19 u20 u23 u24 u25 u26 u27 u28 u30 u31 u43 u44 u45 u46 u47 u48 u49 u50 u51 u52 u53 u54 u55 u56 u57 u58 u59 u60 u61 u62 u63 u64 u65 u66 u67 u68 u69 u70 u71 u72 u73 u74 u75 u76 u77 u78 u79 u80 u81 u82 u83 u84 u85 u86 u87 u88 u89 u90 u91 u92 u93 u94 u95 u96 u97 u98 u99 u100 u101 u102 u103 u104 u105 u106 u107 u108 u109 u110 u111 u112 u113 u114 u115 u116 u117 u118 u119 u120 u121 u122 u123 u124 u125 u126 u127 u128 u129 u130 u131 u132 u133 u134 u135 u136 u137 u138 u139 u140 u141 u142 u143 u144 u145 u146 u147 u148 u149 u150 u151 u152 u153 u154 u155 u156 u157 u158 u159 u160 u161 u162 u163 u164 u165 u166 u167 u168 u169 u170 u171 u172 u173 u174 u175 u176 u177 u178 u179 u180 u181 u182 u183 u184 u185 u186 u187 u188 u189 u190 u191 u192 u193 u194 u195 u196 u197 u198 u199 u200 u201 u202 u203 u204 u205 : Value) :
    Code.wp Tryf.prog rest65 Q ⟨#[.slice A0 n0 c0, .slice A1 n1 c1, .int .i64 (at_ : Int), .int .i64 (r : Int), u4, u5, u6, u7, u8, u9, u10, u11, u12, u13, u14, u15, u16, u17, u18, u19, u20, .slice Ao no co, .map (some b), u23, u24, u25, u26, u27, u28, .int .i64 ix, u30, u31, ev, undef, undef, undef, undef, undef, undef, undef, undef, undef, undef, u43, u44, u45, u46, u47, u48, u49, u50, u51, u52, u53, u54, u55, u56, u57, u58, u59, u60, u61, u62, u63, u64, u65, u66, u67, u68, u69, u70, u71, u72, u73, u74, u75, u76, u77, u78, u79, u80, u81, u82, u83, u84, u85, u86, u87, u88, u89, u90, u91, u92, u93, u94, u95, u96, u97, u98, u99, u100, u101, u102, u103, u104, u105, u106, u107, u108, u109, u110, u111, u112, u113, u114, u115, u116, u117, u118, u119, u120, u121, u122, u123, u124, u125, u126, u127, u128, u129, u130, u131, u132, u133, u134, u135, u136, u137, u138, u139, u140, u141, u142, u143, u144, u145, u146, u147, u148, u149, u150, u151, u152, u153, u154, u155, u156, u157, u158, u159, u160, u161, u162, u163, u164, u165, u166, u167, u168, u169, u170, u171, u172, u173, u174, u175, u176, u177, u178, u179, u180, u181, u182, u183, u184, u185, u186, u187, u188, u189, u190, u191, u192, u193, u194, u195, u196, u197, u198, u199, u200, u201, u202, u203, u204, u205, undef, undef, undef, undef, undef, undef, undef, undef, undef, undef, undef, undef, undef, undef, undef, undef, undef, undef, undef, undef, undef, undef, undef, undef, undef, undef, undef, undef, undef, undef, undef, undef, undef, undef, undef, undef, undef, undef, undef, undef, undef, undef, undef, undef, undef, undef, undef, undef, undef, undef, undef, undef, undef, undef, undef, undef, undef, undef, undef, undef, undef, undef, undef, undef, undef, undef, undef, undef, undef, undef, undef, undef, undef, undef, undef, undef, undef, undef, undef, undef, undef, undef, undef, undef, undef, undef, undef, undef, undef, undef, undef, undef, undef, undef], []⟩ w := by
  obtain ⟨i0, hi, hz0, hz1, hz2⟩ := info_parts strInfo
  have HS0 := Lib.hid hS0
  have HS1 := Lib.hid hS1
  have HSo := Lib.hid hSo
  have hlo := hSo.1
  have HLO := Lib.hid hlo
  have HL0 := Lib.hid hS0.1
  have HIX := Lib.hid hix
  have HEV := Lib.hid hev
  clear hS0 hS1 hSo hix hev hlo
  conv => arg 2; whnf
  go_wp2_with fail
  go_loopg [33, 34, 35, 36, 37, 38, 39, 40, 41, 42, 208] n0 (fun k x33 x34 x35 x36 x37 x38 x39 x40 x41 x42 i wr => ∃ j : Nat, k = n0 - j ∧ j ≤ n0 ∧ i = .int .i64 j ∧ Mm wr b n0 N ∧ Below b w1 wr ∧ Below w0.heap.size w0 wr)
  case atStart => exact ⟨0, rfl, Nat.zero_le _, rfl, hm, hbl, hb0⟩
  case round =>
    clear hm hbl hb0
    obtain ⟨j, hk, hj, rfl, hm, hbl, hb0⟩ := hrel
    have KK := Lib.hid hk; clear hk
    by_cases hlt : j < n0
    case neg =>
      obtain rfl : j = n0 := by omega
      go_wp2_with fail
      exact hQ.out _ _ rfl hb0
    case pos =>
      have hS0r := HS0.out.later (by rw [hb1]; exact hbl)
      have hS1r := HS1.out.later strs_kept (by rw [hb1]; exact hbl)
      rcases hS0r.split with h | ⟨ba, off, rfl, hc⟩
      · exfalso; omega
      have hcj := hc.out j hlt
      have hsj := hS0r.size j
      have hWj := hW.out j hlt
      obtain ⟨sk, hsk⟩ : ∃ x, x = z0.getD j ByteArray.empty := ⟨_, rfl⟩
      rw [← hsk] at hcj hsj hWj
      clear hc hsk
      have hj0 : (0 : Int) ≤ (j : Int) := by omega
      have hj1 : (j : Int) < (n0 : Int) := by omega
      have HCNA := Lib.hid (names_at A1 n1 c1 z1 j wr hS1r (by omega))
      have HCNP := Lib.hid (names_at A1 n1 c1 z1 p wr hS1r hpp)
      have HSoR := Lib.hid (HSo.out.later (by rw [hb1]; exact hbl))
      by_cases hcase : hit = true ∧ j = at_
      case neg =>
        have hwant : want z1 hit at_ r p j = z1.getD j [] := if_neg hcase
        obtain ⟨zw, hzw⟩ : ∃ x, x = want z1 hit at_ r p j := ⟨_, rfl⟩
        rw [← hzw] at hWj hwant
        clear hzw
        rcases HEV.out with ⟨rfl, rfl⟩ | ⟨rfl, pp, rfl⟩
        · have hne : ¬ (j : Int) = (at_ : Int) := fun e => hcase ⟨rfl, by omega⟩
          have hne2 : decide ((j : Int) = (at_ : Int)) = false := decide_eq_false hne
          have hne3 : ¬ j = at_ := fun e => hcase ⟨rfl, e⟩
          go_wp2_with fail
          refine HCNA.out.mono ?_
          rintro e w5 ⟨Aw, nw, cw, rfl, rfl, hws⟩
          have HWs := Lib.hid hws
          rw [← hwant] at HWs
          clear hws
          obtain ⟨wt, rfl⟩ : ∃ x, x = wr := ⟨_, rfl⟩
          have hmt := hm
          have hblt := hbl
          have hb0t := hb0
          clear hm hbl hb0 hcase hwant HCNA HCNP HSoR hS0r hS1r
          have hl := HWs.out.1
          obtain ⟨gg, cg, hlk, hrow⟩ := hmt.look hsj hWj false
          rw [if_neg (by decide), hl] at hlk
          rw [hl] at hrow
          have HROW := Lib.hid hrow
          have HLW := Lib.hid hl
          have hnw := HWs.out.2.1
          unfold maxLen at hnw
          clear hrow hl
          go_wp2_with fail
          clear hlk
          go_loopg [42] nw (fun k i wq => ∃ l q : Nat, k = nw - l ∧ l ≤ nw ∧ i = .int .i64 l ∧ wq = wt.drewN q)
          case atStart => exact ⟨0, 0, rfl, Nat.zero_le _, rfl, rfl⟩
          case round =>
            obtain ⟨l, q, hk, hl, rfl, hwq⟩ := hrel
            have KL := Lib.hid hk; clear hk
            have hmq := hmt.drewN q
            have hblq := below_drewN hblt q
            have hb0q := below_drewN hb0t q
            rw [← hwq] at hmq hblq hb0q
            have HWQ := Lib.hid hwq
            clear hwq
            by_cases hll : l < nw
            case neg =>
              obtain rfl : l = nw := by omega
              go_wp2_with fail
              go_roundg (n0 - (j + 1))
              case measure => rw [KK.out]; omega
              case rel => exact ⟨j + 1, rfl, by omega, by go_num, hmq, hblq, hb0q⟩
            case pos =>
              have hrq : Row wr gg 45 (rc zw) := by rw [HWQ.out]; exact (Row.of_own HROW.out).drewN q
              have hsq : Strs wr Aw nw zw := by rw [HWQ.out]; exact Strs.drewN HWs.out q
              rcases hsq.split with h | ⟨b2, off2, rfl, hc2⟩
              · exfalso; omega
              have hcl := hc2.out l hll
              have hrl := hrq.cell (rc_at zw l (by rw [HLW.out]; exact hll))
              clear hc2 hsq hrq
              generalize zw.getD l ByteArray.empty = sl at hcl hrl
              have hl0 : (0 : Int) ≤ (l : Int) := by omega
              have hl1 : (l : Int) < (nw : Int) := by omega
              have hx0 := hcl
              have hx1 := hrl
              go_wp2_with fail
              go_quiet (fail)
              go_wp2_with fail
              go_roundg (nw - (l + 1))
              case measure => rw [KL.out]; omega
              case rel => exact ⟨l + 1, q + nq, rfl, by omega, by go_num, (by rw [HWQ.out, World.drewN_drewN])⟩
        · go_wp2_with fail
          refine HCNA.out.mono ?_
          rintro e w5 ⟨Aw, nw, cw, rfl, rfl, hws⟩
          have HWs := Lib.hid hws
          rw [← hwant] at HWs
          clear hws
          obtain ⟨wt, rfl⟩ : ∃ x, x = wr := ⟨_, rfl⟩
          have hmt := hm
          have hblt := hbl
          have hb0t := hb0
          clear hm hbl hb0 hcase hwant HCNA HCNP HSoR hS0r hS1r
          have hl := HWs.out.1
          obtain ⟨gg, cg, hlk, hrow⟩ := hmt.look hsj hWj false
          rw [if_neg (by decide), hl] at hlk
          rw [hl] at hrow
          have HROW := Lib.hid hrow
          have HLW := Lib.hid hl
          have hnw := HWs.out.2.1
          unfold maxLen at hnw
          clear hrow hl
          go_wp2_with fail
          clear hlk
          go_loopg [42] nw (fun k i wq => ∃ l q : Nat, k = nw - l ∧ l ≤ nw ∧ i = .int .i64 l ∧ wq = wt.drewN q)
          case atStart => exact ⟨0, 0, rfl, Nat.zero_le _, rfl, rfl⟩
          case round =>
            obtain ⟨l, q, hk, hl, rfl, hwq⟩ := hrel
            have KL := Lib.hid hk; clear hk
            have hmq := hmt.drewN q
            have hblq := below_drewN hblt q
            have hb0q := below_drewN hb0t q
            rw [← hwq] at hmq hblq hb0q
            have HWQ := Lib.hid hwq
            clear hwq
            by_cases hll : l < nw
            case neg =>
              obtain rfl : l = nw := by omega
              go_wp2_with fail
              go_roundg (n0 - (j + 1))
              case measure => rw [KK.out]; omega
              case rel => exact ⟨j + 1, rfl, by omega, by go_num, hmq, hblq, hb0q⟩
            case pos =>
              have hrq : Row wr gg 45 (rc zw) := by rw [HWQ.out]; exact (Row.of_own HROW.out).drewN q
              have hsq : Strs wr Aw nw zw := by rw [HWQ.out]; exact Strs.drewN HWs.out q
              rcases hsq.split with h | ⟨b2, off2, rfl, hc2⟩
              · exfalso; omega
              have hcl := hc2.out l hll
              have hrl := hrq.cell (rc_at zw l (by rw [HLW.out]; exact hll))
              clear hc2 hsq hrq
              generalize zw.getD l ByteArray.empty = sl at hcl hrl
              have hl0 : (0 : Int) ≤ (l : Int) := by omega
              have hl1 : (l : Int) < (nw : Int) := by omega
              have hx0 := hcl
              have hx1 := hrl
              go_wp2_with fail
              go_quiet (fail)
              go_wp2_with fail
              go_roundg (nw - (l + 1))
              case measure => rw [KL.out]; omega
              case rel => exact ⟨l + 1, q + nq, rfl, by omega, by go_num, (by rw [HWQ.out, World.drewN_drewN])⟩
      case pos =>
        obtain ⟨hh, rfl⟩ := hcase
        rcases HEV.out with ⟨hh2, rfl⟩ | ⟨hh2, -⟩
        case inr => rw [hh] at hh2; cases hh2
        have hixp := HIX.out hh
        subst hixp
        have hwant : want z1 hit j r p j = (z1.getD j []).take r ++ (z1.getD p [] ++ (z1.getD j []).drop (r + 1)) := if_pos ⟨hh, rfl⟩
        obtain ⟨zw, hzw⟩ : ∃ x, x = want z1 hit j r p j := ⟨_, rfl⟩
        rw [← hzw] at hWj hwant
        clear hzw
        obtain ⟨C, hC⟩ : ∃ C, C = no - 1 + (z1.getD p []).length := ⟨_, rfl⟩
        have hbwr : b ≤ wr.heap.size := by have := hbl.size; omega
        obtain ⟨wo, rfl⟩ : ∃ x, x = wr := ⟨_, rfl⟩
        go_wp2_with fail
        refine HCNA.out.mono ?_
        rintro e w5 ⟨Ax, nx, cx, rfl, rfl, -⟩
        go_wp2_with fail
        refine HCNP.out.mono ?_
        rintro e w5 ⟨Ap, np, cp, rfl, rfl, hsp⟩
        have HSP := Lib.hid hsp
        have hnp := hsp.1
        rw [hnp] at hC hpl
        have HC := Lib.hid hC
        clear hC
        have HNP := Lib.hid hnp
        clear hsp hnp
        go_wp2_with (at_make; refine wpList_make_own _ rfl _ _ 22 rfl b 9 i0 _ 1 Tryf.underlying22 hi hz0 hz1 _ _ _ C rfl rfl (by have := HC.out; omega) (by rw [hz2]; have := HC.out; omega) (by unfold maxLen; have := HC.out; omega) hbwr ?_; intro w3 hown3 hg3)
        have hb3 : Below wo.heap.size wo w3 := grown_below_none hg3
        obtain ⟨g, hg⟩ : ∃ g, g = wo.heap.size := ⟨_, rfl⟩
        rw [← hg] at hown3 hb3 ⊢
        obtain ⟨zat, hzat⟩ : ∃ x, x = z1.getD j [] := ⟨_, rfl⟩
        rw [← hzat] at hwant HSoR HLO
        obtain ⟨zp, hzp⟩ : ∃ x, x = z1.getD p [] := ⟨_, rfl⟩
        rw [← hzp] at hwant HSP HNP
        clear hzat hzp hg3 HCNA HCNP
        have HG := Lib.hid hg
        clear hg
        have EQ9 : Hid (∀ l, zat.getD l ByteArray.empty = zat.getD l ByteArray.empty) := Lib.hid (fun l => rfl)
        have EQ10 : Hid (∀ l, zp.getD l ByteArray.empty = zp.getD l ByteArray.empty) := Lib.hid (fun l => rfl)
        have EQ11 : Hid (∀ l, zat.getD (r + 1 + l) ByteArray.empty = (zat.drop (r + 1)).getD l ByteArray.empty) := Lib.hid (fun l => by rw [List.getD_eq_getElem?_getD, List.getD_eq_getElem?_getD, List.getElem?_drop])
        have hown3' : w3.ownsRow b 9 1 (.slice (some ⟨g, 0, none⟩) 0 C) 0 ((([] : List ByteArray) ++ zat.take 0).map Value.string) := hown3
        clear hown3
        go_loopg [37, 38] (r) (fun k v i wq => ∃ l : Nat, k = r - l ∧ l ≤ r ∧ i = .int .i64 ((l : Nat) : Int) ∧ v = .slice (some ⟨g, 0, none⟩) (l) C ∧ wq.ownsRow b 9 1 (.slice (some ⟨g, 0, none⟩) (l) C) (l) ((([] : List ByteArray) ++ (zat).take l).map Value.string) ∧ Below g wo wq)
        case atStart => exact ⟨0, by omega, by omega, by go_num, rfl, hown3', hb3⟩
        case round =>
          clear hown3' hb3
          obtain ⟨l, hk, hl, rfl, rfl, hown9, hb9⟩ := hrel
          have KL := Lib.hid hk; clear hk
          by_cases hll : l < r
          case pos =>
            rcases (Strs.later HSoR.out (show Below wo.heap.size wo wr by rw [← HG.out]; exact hb9)).split with h | ⟨b2, off2, rfl, hc2⟩
            · exfalso; omega
            have hcl := hc2.out (l) (by omega)
            have hsn := snoc_map (([] : List ByteArray)) (zat) l (by rw [HLO.out]; omega)
            clear hc2
            have hl0 : (0 : Int) ≤ ((l : Nat) : Int) := by omega
            have hl1 : ((l : Nat) : Int) < (no : Int) := by omega
            have hgq : g < wr.heap.size := (hown9.lt g rfl).2
            have hfit : (l) + 1 ≤ C := by have := HC.out; omega
            skip
            generalize (zat).getD l ByteArray.empty = sj at hcl hsn
            have HSN := Lib.hid hsn
            clear hsn
            go_wp2_with (at_builtin; refine wpList_append_fits _ rfl _ _ 22 rfl b 9 i0 1 Tryf.underlying22 hi hz1 g (l) C ((([] : List ByteArray) ++ (zat).take l).map Value.string) rfl (hown9.alloc _) ⟨wr.heap.size, 0, none⟩ 1 1 [.string sj] rfl rfl one_news (by intro u hu; simp at hu; subst hu; rfl) hfit ?_; intro w9 hown9 hg9)
            rw [HSN.out] at hown9
            have hb9 : Below g wo w9 := (hb9.alloc (Nat.le_of_lt hgq) _).grown hg9 (by simp; omega) (fun k e => by injection e with e; omega)
            go_roundg (r - (l + 1))
            case measure => rw [KL.out]; omega
            case rel => exact ⟨l + 1, rfl, by omega, by go_num, rfl, hown9, hb9⟩
          case neg =>
            obtain rfl : r = l := by omega
            have ho10 : wr.ownsRow b 9 1 (.slice (some ⟨g, 0, none⟩) (r + 0) C) (r + 0) ((zat.take r ++ zp.take 0).map Value.string) := by simpa using hown9
            clear hown9 KL
            go_wp2_with fail
            go_loopg [37, 39] (np) (fun k v i wq => ∃ l : Nat, k = np - l ∧ l ≤ np ∧ i = .int .i64 ((l : Nat) : Int) ∧ v = .slice (some ⟨g, 0, none⟩) (r + l) C ∧ wq.ownsRow b 9 1 (.slice (some ⟨g, 0, none⟩) (r + l) C) (r + l) ((zat.take r ++ (zp).take l).map Value.string) ∧ Below g wo wq)
            case atStart => exact ⟨0, by omega, by omega, by go_num, rfl, ho10, hb9⟩
            case round =>
              clear ho10 hb9
              obtain ⟨l, hk, hl, rfl, rfl, hown10, hb10⟩ := hrel
              have KL := Lib.hid hk; clear hk
              by_cases hll : l < np
              case pos =>
                rcases (Strs.later HSP.out (show Below wo.heap.size wo wr by rw [← HG.out]; exact hb10)).split with h | ⟨b2, off2, rfl, hc2⟩
                · exfalso; omega
                have hcl := hc2.out (l) (by omega)
                have hsn := snoc_map (zat.take r) (zp) l (by rw [HNP.out]; exact hll)
                clear hc2
                have hl0 : (0 : Int) ≤ ((l : Nat) : Int) := by omega
                have hl1 : ((l : Nat) : Int) < (np : Int) := by omega
                have hgq : g < wr.heap.size := (hown10.lt g rfl).2
                have hfit : (r + l) + 1 ≤ C := by have := HC.out; omega
                skip
                generalize (zp).getD l ByteArray.empty = sj at hcl hsn
                have HSN := Lib.hid hsn
                clear hsn
                go_wp2_with (at_builtin; refine wpList_append_fits _ rfl _ _ 22 rfl b 9 i0 1 Tryf.underlying22 hi hz1 g (r + l) C ((zat.take r ++ (zp).take l).map Value.string) rfl (hown10.alloc _) ⟨wr.heap.size, 0, none⟩ 1 1 [.string sj] rfl rfl one_news (by intro u hu; simp at hu; subst hu; rfl) hfit ?_; intro w9 hown9 hg9)
                rw [HSN.out] at hown9
                have hb9 : Below g wo w9 := (hb10.alloc (Nat.le_of_lt hgq) _).grown hg9 (by simp; omega) (fun k e => by injection e with e; omega)
                go_roundg (np - (l + 1))
                case measure => rw [KL.out]; omega
                case rel => exact ⟨l + 1, rfl, by omega, by go_num, rfl, hown9, hb9⟩
              case neg =>
                obtain rfl : np = l := by omega
                have e10 : zp.take np = zp := List.take_of_length_le (by rw [HNP.out]; omega)
                rw [e10] at hown10
                have ho11 : wr.ownsRow b 9 1 (.slice (some ⟨g, 0, none⟩) (r + np + 0) C) (r + np + 0) (((zat.take r ++ zp) ++ (zat.drop (r + 1)).take 0).map Value.string) := by simpa using hown10
                clear hown10 e10 KL
                go_wp2_with fail
                go_loopg [37, 40] ((no - (r + 1))) (fun k v i wq => ∃ l : Nat, k = (no - (r + 1)) - l ∧ l ≤ (no - (r + 1)) ∧ i = .int .i64 ((r + 1 + l : Nat) : Int) ∧ v = .slice (some ⟨g, 0, none⟩) (r + np + l) C ∧ wq.ownsRow b 9 1 (.slice (some ⟨g, 0, none⟩) (r + np + l) C) (r + np + l) (((zat.take r ++ zp) ++ (zat.drop (r + 1)).take l).map Value.string) ∧ Below g wo wq)
                case atStart => exact ⟨0, by omega, by omega, by go_num, rfl, ho11, hb10⟩
                case round =>
                  clear ho11 hb10
                  obtain ⟨l, hk, hl, rfl, rfl, hown11, hb11⟩ := hrel
                  have KL := Lib.hid hk; clear hk
                  by_cases hll : l < (no - (r + 1))
                  case pos =>
                    rcases (Strs.later HSoR.out (show Below wo.heap.size wo wr by rw [← HG.out]; exact hb11)).split with h | ⟨b2, off2, rfl, hc2⟩
                    · exfalso; omega
                    have hcl := hc2.out (r + 1 + l) (by omega)
                    have hsn := snoc_map ((zat.take r ++ zp)) (zat.drop (r + 1)) l (by rw [List.length_drop, HLO.out]; exact hll)
                    clear hc2
                    have hl0 : (0 : Int) ≤ ((r + 1 + l : Nat) : Int) := by omega
                    have hl1 : ((r + 1 + l : Nat) : Int) < (no : Int) := by omega
                    have hgq : g < wr.heap.size := (hown11.lt g rfl).2
                    have hfit : (r + np + l) + 1 ≤ C := by have := HC.out; omega
                    rw [EQ11.out l] at hcl
                    generalize (zat.drop (r + 1)).getD l ByteArray.empty = sj at hcl hsn
                    have HSN := Lib.hid hsn
                    clear hsn
                    go_wp2_with (at_builtin; refine wpList_append_fits _ rfl _ _ 22 rfl b 9 i0 1 Tryf.underlying22 hi hz1 g (r + np + l) C (((zat.take r ++ zp) ++ (zat.drop (r + 1)).take l).map Value.string) rfl (hown11.alloc _) ⟨wr.heap.size, 0, none⟩ 1 1 [.string sj] rfl rfl one_news (by intro u hu; simp at hu; subst hu; rfl) hfit ?_; intro w9 hown9 hg9)
                    rw [HSN.out] at hown9
                    have hb9 : Below g wo w9 := (hb11.alloc (Nat.le_of_lt hgq) _).grown hg9 (by simp; omega) (fun k e => by injection e with e; omega)
                    go_roundg ((no - (r + 1)) - (l + 1))
                    case measure => rw [KL.out]; omega
                    case rel => exact ⟨l + 1, rfl, by omega, by go_num, rfl, hown9, hb9⟩
                  case neg =>
                    obtain rfl : (no - (r + 1)) = l := by omega
                    have e11 : (zat.drop (r + 1)).take (no - (r + 1)) = zat.drop (r + 1) := List.take_of_length_le (by rw [List.length_drop, HLO.out]; omega)
                    rw [e11, List.append_assoc, ← hwant] at hown11
                    have HWs : Hid (Strs wr (some ⟨g, 0, none⟩) (r + np + (no - (r + 1))) zw) := Lib.hid (strs_of_own hown11 (by rw [hwant]; simp only [List.length_append, List.length_take, List.length_drop, HLO.out, HNP.out]; omega) (by unfold maxLen; omega) (by
                      intro x hx
                      rw [hwant, List.mem_append, List.mem_append] at hx
                      rcases hx with hx | hx | hx
                      · exact HSoR.out.2.2.1 x (List.mem_of_mem_take hx)
                      · exact HSP.out.2.2.1 x hx
                      · exact HSoR.out.2.2.1 x (List.mem_of_mem_drop hx)))
                    have hbw : Below wo.heap.size wo wr := by rw [← HG.out]; exact hb11
                    have hmt := hm.later hbw
                    have hblt : Below b w1 wr := hbl.trans ⟨hbw.os, hbw.tape, hbw.output, hbw.size, fun k hk => hbw.block k (by omega)⟩
                    have hb0t := below_next hbw hb0
                    obtain ⟨wt, rfl⟩ : ∃ x, x = wr := ⟨_, rfl⟩
                    obtain ⟨nw, hnw⟩ : ∃ x, x = r + np + (no - (r + 1)) := ⟨_, rfl⟩
                    obtain ⟨Aw, hAw⟩ : ∃ x, x = some (⟨g, 0, none⟩ : Addr) := ⟨_, rfl⟩
                    rw [← hnw, ← hAw] at HWs ⊢
                    clear hnw hAw hown11 e11 hbw hm hbl hb0 hb11 hwant HG HSoR HSP HNP KL
                    have hl := HWs.out.1
                    obtain ⟨gg, cg, hlk, hrow⟩ := hmt.look hsj hWj false
                    rw [if_neg (by decide), hl] at hlk
                    rw [hl] at hrow
                    have HROW := Lib.hid hrow
                    have HLW := Lib.hid hl
                    have hnw := HWs.out.2.1
                    unfold maxLen at hnw
                    clear hrow hl
                    go_wp2_with fail
                    clear hlk
                    go_loopg [42] nw (fun k i wq => ∃ l q : Nat, k = nw - l ∧ l ≤ nw ∧ i = .int .i64 l ∧ wq = wt.drewN q)
                    case atStart => exact ⟨0, 0, rfl, Nat.zero_le _, rfl, rfl⟩
                    case round =>
                      obtain ⟨l, q, hk, hl, rfl, hwq⟩ := hrel
                      have KL := Lib.hid hk; clear hk
                      have hmq := hmt.drewN q
                      have hblq := below_drewN hblt q
                      have hb0q := below_drewN hb0t q
                      rw [← hwq] at hmq hblq hb0q
                      have HWQ := Lib.hid hwq
                      clear hwq
                      by_cases hll : l < nw
                      case neg =>
                        obtain rfl : l = nw := by omega
                        go_wp2_with fail
                        go_roundg (n0 - (j + 1))
                        case measure => rw [KK.out]; omega
                        case rel => exact ⟨j + 1, rfl, by omega, by go_num, hmq, hblq, hb0q⟩
                      case pos =>
                        have hrq : Row wr gg 45 (rc zw) := by rw [HWQ.out]; exact (Row.of_own HROW.out).drewN q
                        have hsq : Strs wr Aw nw zw := by rw [HWQ.out]; exact Strs.drewN HWs.out q
                        rcases hsq.split with h | ⟨b2, off2, rfl, hc2⟩
                        · exfalso; omega
                        have hcl := hc2.out l hll
                        have hrl := hrq.cell (rc_at zw l (by rw [HLW.out]; exact hll))
                        clear hc2 hsq hrq
                        generalize zw.getD l ByteArray.empty = sl at hcl hrl
                        have hl0 : (0 : Int) ≤ (l : Int) := by omega
                        have hl1 : (l : Int) < (nw : Int) := by omega
                        have hx0 := hcl
                        have hx1 := hrl
                        go_wp2_with fail
                        go_quiet (fail)
                        go_wp2_with fail
                        go_roundg (nw - (l + 1))
                        case measure => rw [KL.out]; omega
                        case rel => exact ⟨l + 1, q + nq, rfl, by omega, by go_num, (by rw [HWQ.out, World.drewN_drewN])⟩
end fnInc
end Go.Proofs.YtlahcemjknffnaaFmt
