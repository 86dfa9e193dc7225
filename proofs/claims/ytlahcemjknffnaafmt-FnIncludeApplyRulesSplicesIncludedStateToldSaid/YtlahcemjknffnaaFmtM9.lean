/-
  FnIncludeApplyRulesSplicesIncludedState from the search of inc on. Conditions: the map holds the rows of the states; F answers the tape.
-/
import Derived.Test.YtlahcemjknffnaaFmtM8
import Derived.Deep.Cut
namespace Go.Proofs.YtlahcemjknffnaaFmt
open Go.RowKit Go.Extern.Stop Go.Stop Go.Extern
set_option linter.unusedSimpArgs false
set_option linter.unusedVariables false
namespace fnInc
open fnValidatePush
noncomputable def rest53 : Code := right 16 top
set_option maxHeartbeats 4000000 in
set_option maxRecDepth 1000000 in
theorem rest53_any (F : Interp) (w0 w1 w : World) (A0 A1 Ao : Option Addr) (n0 c0 n1 c1 no co at_ r b : Nat) (z0 : List ByteArray) (z1 : List (List ByteArray)) (t : ByteArray) (Q : Exit → Act → World → Prop) (hF : F.answers w.tape)
    (hQ : Hid (∀ (T : Array Value) (w' : World), T.getD 10 undef = .bool true → Below w0.heap.size w0 w' → Q .ret ⟨T, []⟩ w')) (hS0 : Strs w1 A0 n0 z0) (hS1 : Alts Strs w1 A1 n1 z1) (hSo : Strs w1 Ao no (z1.getD at_ []))
    (hb1 : w1.heap.size = b) (hbl : Below b w1 w) (hb0 : Below w0.heap.size w0 w) (hle : w0.heap.size ≤ b) (hm : Mm w b n0 (nm z0 z1 n0)) (hd : Dist z0 n0) (ht : t.size ≤ maxLen)
    (hn0 : n0 ≤ 4096) (hat : at_ < n0) (hr : r < no) (hlen : ∀ i, (z1.getD i []).length ≤ 1048576) (u5 u6 u7 u8 u9 u10 u11 u12 u13 u14 u15 u16 u17 u18 u19 u20 u23 u24 u25 u26 u27 u28 u43 u44 u45 u46 u47 u48 u49 u50 u51 u52 u53 u54 u55 u56 u57 u58 u59 u60 u61 u62 u63 u64 u65 u66 u67 u68 u69 u70 u71 u72 u73 u74 u75 u76 u77 u78 u79 u80 u81 u82 u83 u84 u85 u86 u87 u88 u89 u90 u91 u92 u93 u94 u95 u96 u97 u98 u99 u100 u101 u102 u103 u104 u105 u106 u107 u108 u109 u110 u111 u112 u113 u114 u115 u116 u117 u118 u119 u120 u121 u122 u123 u124 u125 u126 u127 u128 u129 u130 u131 u132 u133 u134 u135 u136 u137 u138 u139 u140 u141 u142 u143 u144 u145 u146 u147 u148 u149 u150 u151 u152 u153 u154 u155 u156 u157 u158 u159 u160 u161 u162 u163 u164 u165 u166 u167 u168 u169 u170 u171 u172 u173 u174 u175 : Value) :
    Code.wp Tryf.prog rest53 Q ⟨#[.slice A0 n0 c0, .slice A1 n1 c1, .int .i64 (at_ : Int), .int .i64 (r : Int), .string t, u5, u6, u7, u8, u9, u10, u11, u12, u13, u14, u15, u16, u17, u18, u19, u20, .slice Ao no co, .map (some b), u23, u24, u25, u26, u27, u28, undef, undef, undef, undef, undef, undef, undef, undef, undef, undef, undef, undef, undef, undef, u43, u44, u45, u46, u47, u48, u49, u50, u51, u52, u53, u54, u55, u56, u57, u58, u59, u60, u61, u62, u63, u64, u65, u66, u67, u68, u69, u70, u71, u72, u73, u74, u75, u76, u77, u78, u79, u80, u81, u82, u83, u84, u85, u86, u87, u88, u89, u90, u91, u92, u93, u94, u95, u96, u97, u98, u99, u100, u101, u102, u103, u104, u105, u106, u107, u108, u109, u110, u111, u112, u113, u114, u115, u116, u117, u118, u119, u120, u121, u122, u123, u124, u125, u126, u127, u128, u129, u130, u131, u132, u133, u134, u135, u136, u137, u138, u139, u140, u141, u142, u143, u144, u145, u146, u147, u148, u149, u150, u151, u152, u153, u154, u155, u156, u157, u158, u159, u160, u161, u162, u163, u164, u165, u166, u167, u168, u169, u170, u171, u172, u173, u174, u175, undef, undef, undef, undef, undef, undef, undef, undef, undef, undef, undef, undef, undef, undef, undef, undef, undef, undef, undef, undef, undef, undef, undef, undef, undef, undef, undef, undef, undef, undef, undef, undef, undef, undef, undef, undef, undef, undef, undef, undef, undef, undef, undef, undef, undef, undef, undef, undef, undef, undef, undef, undef, undef, undef, undef, undef, undef, undef, undef, undef, undef, undef, undef, undef, undef, undef, undef, undef, undef, undef, undef, undef, undef, undef, undef, undef, undef, undef, undef, undef, undef, undef, undef, undef, undef, undef, undef, undef, undef, undef, undef, undef, undef, undef, undef, undef, undef, undef, undef, undef, undef, undef, undef, undef, undef, undef, undef, undef, undef, undef, undef, undef, undef, undef, undef, undef, undef, undef, undef, undef, undef, undef, undef, undef], []⟩ w := by
  have HS0 := Lib.hid hS0
  have HS1 := Lib.hid hS1
  have HSo := Lib.hid hSo
  have HLEN := Lib.hid hlen
  have hno : no ≤ 1048576 := by have := hlen at_; rw [hSo.1] at this; exact this
  have HD := Lib.hid hd
  have HF := Lib.hid hF
  have HL0 := Lib.hid hS0.1
  have HLO := Lib.hid hSo.1
  clear hS0 hS1 hSo hlen hd hF
  have hS0r := HS0.out.later (by rw [hb1]; exact hbl)
  rcases hS0r.split with h | ⟨ba, off, rfl, hc⟩
  · exfalso; omega
  conv => arg 2; whnf
  go_wp2_with fail
  go_loopg [29, 30, 31, 178] n0 (fun k m x30 x31 i wr => ∃ j : Nat, k = n0 - j ∧ j ≤ n0 ∧ i = .int .i64 j ∧ m = .int .i64 (inx z0 t j) ∧ wr = w)
  case atStart => exact ⟨0, rfl, Nat.zero_le _, rfl, rfl, rfl⟩
  case round =>
    obtain ⟨j, hk, hj, rfl, rfl, rfl⟩ := hrel
    have KK := Lib.hid hk; clear hk
    by_cases hlt : j < n0
    case pos =>
      have hcj := hc.out j hlt
      have HIX : Hid (inx z0 t (j + 1) = if eqB (z0.getD j ByteArray.empty) t then (j : Int) else inx z0 t j) := Lib.hid rfl
      generalize z0.getD j ByteArray.empty = sj at hcj HIX
      generalize inx z0 t j = ij at HIX
      have hj0 : (0 : Int) ≤ (j : Int) := by omega
      have hj1 : (j : Int) < (n0 : Int) := by omega
      by_cases hst : sj = t
      · subst hst
        go_wp2_with fail
        go_roundg (n0 - (j + 1))
        case measure => rw [KK.out]; omega
        case rel => exact ⟨j + 1, rfl, by omega, by go_num, by rw [HIX.out, eqB_self, if_pos rfl], rfl⟩
      · have hse := toList_ne2 hst
        have HST := Lib.hid hst; clear hst
        go_wp2_with fail
        go_roundg (n0 - (j + 1))
        case measure => rw [KK.out]; omega
        case rel => exact ⟨j + 1, rfl, by omega, by go_num, by rw [HIX.out, eqB_ne HST.out, if_neg (by decide)], rfl⟩
    case neg =>
      obtain rfl : n0 = j := by omega
      have hca := hc.out at_ hat
      have hsa := hS0r.size at_
      have hNa := nm_at z0 z1 n0 at_ HD.out hat
      have HCA : Hid (nm z0 z1 n0 (z0.getD at_ ByteArray.empty) = some (z1.getD at_ [])) := Lib.hid hNa
      clear hNa hc KK
      have ha0 : (0 : Int) ≤ (at_ : Int) := by omega
      have ha1 : (at_ : Int) < (n0 : Int) := by omega
      rcases inx_nm z0 z1 t n0 with ⟨q1, q2⟩ | ⟨p, q1, q2, q3, q4⟩
      · rw [q1]
        have HZI := Lib.hid (zi_miss F t (z0.getD at_ ByteArray.empty) r b n0 _ wr HF.out hm ht q2)
        clear q1 q2
        go_wp2_with fail
        refine HZI.out.mono ?_
        rintro e w5 ⟨pp, rfl, hm5, hb5⟩
        have hlen5 := hm5.len 3
        have hbl5 := hbl.trans hb5
        have hb05 : Below w0.heap.size w0 w5 := hb0.trans ⟨hb5.os, hb5.tape, hb5.output, hb5.size, fun k hk => hb5.block k (by omega)⟩
        clear hca HZI hm hb5
        go_upto_region 63 with (fail)
        rename_i K2 hK2 K1 hK1
        have HK2 := Lib.hid hK2
        clear hK2
        go_wp2_with fail
        refine HK2.out _ _ ?_
        exact rest65_any w0 w1 w5 _ A1 Ao n0 c0 n1 c1 no co at_ r 0 b z0 z1 _ _ false _ Q hQ HS0.out HS1.out HSo.out hb1 hbl5 hb05 hle hm5 (fun i hi => nm_want z0 z1 n0 at_ r 0 i HD.out hi) hn0 hat hr hno (HLEN.out 0) (by omega) (fun h => Bool.noConfusion h) (.inr ⟨rfl, _, rfl⟩) _ _ _ _ _ _ _ _ _ _ _ _ _ _ _ _ _ _ _ _ _ _ _ _ _ _ _ _ _ _ _ _ _ _ _ _ _ _ _ _ _ _ _ _ _ _ _ _ _ _ _ _ _ _ _ _ _ _ _ _ _ _ _ _ _ _ _ _ _ _ _ _ _ _ _ _ _ _ _ _ _ _ _ _ _ _ _ _ _ _ _ _ _ _ _ _ _ _ _ _ _ _ _ _ _ _ _ _ _ _ _ _ _ _ _ _ _ _ _ _ _ _ _ _ _ _ _ _ _ _ _ _ _ _ _ _ _ _ _ _ _ _ _ _ _ _ _ _ _ _ _ _ _ _ _ _ _ _ _ _ _ _ _ _ _ _ _ _ _ _ _ _ _ _ _ _ _ _ _ _ _ _ _ _ _ _ _ _
      · rw [q2]
        have HZI := Lib.hid (zi_hit t (z0.getD at_ ByteArray.empty) r b n0 _ (z1.getD at_ []) (z1.getD p []) wr hm (by unfold maxLen; omega) ht hsa q4 HCA.out (by rw [HLO.out]; exact hr) (HLEN.out at_) (HLEN.out p))
        go_wp2_with fail
        refine HZI.out.mono ?_
        rintro e w5 ⟨rfl, hm5, hb5⟩
        have hlen5 := hm5.len 3
        have hbl5 := hbl.trans hb5
        have hb05 : Below w0.heap.size w0 w5 := hb0.trans ⟨hb5.os, hb5.tape, hb5.output, hb5.size, fun k hk => hb5.block k (by omega)⟩
        clear hca HZI hm hb5 q4
        go_upto_region 63 with (fail)
        rename_i K2 hK2 K1 hK1
        have HK2 := Lib.hid hK2
        clear hK2
        go_wp2_with fail
        refine HK2.out _ _ ?_
        exact rest65_any w0 w1 w5 _ A1 Ao n0 c0 n1 c1 no co at_ r p b z0 z1 _ _ true _ Q hQ HS0.out HS1.out HSo.out hb1 hbl5 hb05 hle hm5 (fun i hi => upd_want z0 z1 n0 at_ r p i HD.out hi hat) hn0 hat hr hno (HLEN.out p) (by omega) (fun h => rfl) (.inl ⟨rfl, rfl⟩) _ _ _ _ _ _ _ _ _ _ _ _ _ _ _ _ _ _ _ _ _ _ _ _ _ _ _ _ _ _ _ _ _ _ _ _ _ _ _ _ _ _ _ _ _ _ _ _ _ _ _ _ _ _ _ _ _ _ _ _ _ _ _ _ _ _ _ _ _ _ _ _ _ _ _ _ _ _ _ _ _ _ _ _ _ _ _ _ _ _ _ _ _ _ _ _ _ _ _ _ _ _ _ _ _ _ _ _ _ _ _ _ _ _ _ _ _ _ _ _ _ _ _ _ _ _ _ _ _ _ _ _ _ _ _ _ _ _ _ _ _ _ _ _ _ _ _ _ _ _ _ _ _ _ _ _ _ _ _ _ _ _ _ _ _ _ _ _ _ _ _ _ _ _ _ _ _ _ _ _ _ _ _ _ _ _ _ _
end fnInc
end Go.Proofs.YtlahcemjknffnaaFmt
