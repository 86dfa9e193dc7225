/-
  The walk of FnPushThenPopRestoresStack. Conditions: none beyond the statement's own.
-/
import Derived.Test.YtjgmknlkgpfpkaaJ6
namespace Go.Proofs.Ytjgmknlkgpfpkaa
open Go.RowKit
set_option linter.unusedSimpArgs false
set_option linter.unusedVariables false
namespace fnPushThenPopRestoresStack
set_option maxHeartbeats 8000000 in
set_option maxRecDepth 100000 in
theorem walk (A0 : Option Addr) (n0 c0 : Nat) (z0 : List ByteArray) (A1 : Option Addr) (n1 c1 : Nat) (z1 : List ByteArray) (st : ByteArray) (A3 : Option Addr) (n3 c3 : Nat) (z3 : List ByteArray) (w : World) (hv0 : Strs w A0 n0 z0) (hv1 : Strs w A1 n1 z1) (hst : st.size ≤ maxLen) (hv3 : Strs w A3 n3 z3) :
    Calls Try.prog 5 #[.slice A0 n0 c0, .slice A1 n1 c1, .string st, .slice A3 n3 c3] w fun e w' => e = .returned (.bool true) ∧ Below w.heap.size w w' := by
  have HV0 := Lib.hid hv0
  have HV1 := Lib.hid hv1
  have HV3 := Lib.hid hv3
  have HL0 := Lib.hid hv0.1
  have HL3 := Lib.hid hv3.1
  have HST := Lib.hid hst
  clear hv0 hv1 hv3 hst
  go_enter Try.func5, Try.ntmps5
  go_wp2_with fail
  refine (zzC A0 n0 c0 z0 A1 n1 c1 z1 st A3 n3 c3 z3 _ HV0.out HV1.out HST.out HV3.out).mono ?_
  rintro e w1 ⟨b, rfl, rfl, hb⟩
  cases b
  · go_wp2_with fail
    go_ret
    exact ⟨rfl, Below.refl _ _⟩
  obtain ⟨hn0, hs0, hn1, hs1, hst, hn3, hs3⟩ := hb rfl
  clear hb
  go_wp2_with fail
  refine (strBytes_any A0 n0 c0 z0 _ HV0.out hn0 hs0).mono ?_
  rintro e w1 ⟨r0, rfl, hr0, rfl⟩
  go_wp2_with fail
  refine (strBytes_any A1 n1 c1 z1 _ HV1.out hn1 hs1).mono ?_
  rintro e w1 ⟨r1, rfl, hr1, rfl⟩
  go_wp2_with fail
  refine (strBytes_any A3 n3 c3 z3 _ HV3.out hn3 hs3).mono ?_
  rintro e w1 ⟨r3, rfl, hr3, rfl⟩
  by_cases hrr : r0 + r1 + r3 + st.size ≤ 1048576
  case neg =>
    go_wp2_with fail
    go_ret
    exact ⟨rfl, Below.refl _ _⟩
  by_cases hs : n0 ≤ 4096 ∧ n1 ≤ 4096 ∧ n3 ≤ 4096 ∧ st.size ≤ 65536
  case neg =>
    go_wp2_with fail
    all_goals first | (exfalso; omega) | (go_ret; exact ⟨rfl, Below.refl _ _⟩)
  obtain ⟨k0, k1, k3, kst⟩ := hs
  by_cases hz : n3 = 0
  · subst hz
    go_wp2_with fail
    go_ret
    exact ⟨rfl, Below.refl _ _⟩
  have hz' : ((n3 : Int) == 0) = false := by simpa using hz
  have hzi : (0 : Int) < (n3 : Int) := by omega
  have hzn : 0 < n3 := by omega
  rcases HV3.out.split with h | ⟨bg, og, rfl, hcg⟩
  · exfalso; omega
  have hc0 := hcg.out 0 hzn
  rw [Nat.add_zero] at hc0
  obtain ⟨s0, hs0d⟩ : ∃ x, x = z3.getD 0 ByteArray.empty := ⟨_, rfl⟩
  rw [← hs0d] at hc0
  have HS0 := Lib.hid hs0d
  clear hs0d hcg hz
  by_cases hse : s0.size = 0
  · have he : s0.toList.isEmpty = true := by rw [toList_empty]; simpa using hse
    go_wp2_with fail
    go_ret
    exact ⟨rfl, Below.refl _ _⟩
  have he : s0.toList.isEmpty = false := by rw [toList_empty]; simpa using hse
  have hsp : 0 < s0.size := by omega
  clear hse
  go_wp2_with fail
  refine (clone_any _ n3 c3 z3 _ HV3.out hzn (by omega)).mono ?_
  rintro e w2 ⟨r, rfl, hrow, hb2⟩
  clear hc0 he hr0 hr1 hr3 hrr
  go_wp2_with fail
  refine (build_any A0 n0 c0 z0 A1 n1 c1 z1 _ (HV0.out.later hb2) (HV1.out.later hb2) k0 k1 hs1).mono ?_
  rintro e w3 ⟨bl, vl, es, rfl, hsl, hke, hb3⟩
  have hbw3 := below_next hb3 hb2
  go_wp2_with fail
  refine (build_any A0 n0 c0 z0 A1 n1 c1 z1 _ (HV0.out.later hbw3) (HV1.out.later hbw3) k0 k1 hs1).mono ?_
  rintro e w4 ⟨br, vr, fs, rfl, hsr, hkf, hb4⟩
  have hbw4 := below_next hb4 hbw3
  have HRW := Lib.hid ((hrow.later hb3).later hb4)
  have hbl := hsl.2.1.lt
  have HVL := Lib.hid hsl.row_lt
  have HSL := Lib.hid (hsl.later hb4)
  have HSR := Lib.hid hsr.read
  obtain ⟨hel, hfl, hag⟩ := keys_agree hke hkf (z0.length + 1) (Nat.le_refl _)
  obtain ⟨-, -, hga⟩ := keys_agree hkf hke (z0.length + 1) (Nat.le_refl _)
  have HAG := Lib.hid hag
  have HGA := Lib.hid hga
  rw [HL0.out] at hel hfl
  have HEL := Lib.hid hel
  have HFL := Lib.hid hfl
  have hlo2 : w2.heap.size ≤ w4.heap.size := Nat.le_trans hb3.size hb4.size
  have hlo1 : w.heap.size ≤ w2.heap.size := hb2.size
  clear hsl hsr hrow hke hkf hag hga hel hfl hb2 hb3 hb4 hbw3
  have C1 := len_any HSL.out.read
  rw [HEL.out] at C1
  have CL1 := Lib.hid C1
  clear C1
  go_wp2_with fail
  refine CL1.out.mono ?_
  rintro e w5 ⟨rfl, rfl⟩
  have HSZ0 : Hid (0 < (z3.getD 0 ByteArray.empty).size) := by show 0 < _; rw [← HS0.out]; exact hsp
  have CP := Lib.hid (push_any w2.heap.size st bl vl es (some ⟨r, 0, none⟩) n3 n3 z3 w4 HSL.out ⟨HL3.out.symm, .inr ⟨r, rfl, HRW.out⟩⟩ (by rw [HEL.out]; omega) hlo2 HSZ0.out)
  clear CL1
  go_wp2_with fail
  refine (pushW (CP.out.mono fun e w' h => ⟨.inl h.1, h⟩)).mono ?_
  intro e w5 hpp
  obtain ⟨rfl, hst5, -⟩ := id hpp
  obtain ⟨v5, hst5⟩ := hst5
  have HSR5 := Lib.hid (hpp.other HSR.out hbl HVL.out)
  have HRW5 := Lib.hid (hpp.2.2.2.2 _ _ HRW.out)
  have hb5 := hpp.2.2.1
  have hel5 : (es ++ [(⟨st, some ⟨r, 0, none⟩, n3, n3, z3⟩ : Ent)]).length = n0 + 1 + 1 := by rw [List.length_append, HEL.out]; rfl
  have hx5 : (es ++ [(⟨st, some ⟨r, 0, none⟩, n3, n3, z3⟩ : Ent)])[n0 + 1]? = some ⟨st, some ⟨r, 0, none⟩, n3, n3, z3⟩ := by rw [List.getElem?_append_right (by rw [HEL.out]; exact Nat.le_refl _), HEL.out]; simp
  have C2 := len_any hst5.read
  rw [hel5] at C2
  have CL2 := Lib.hid C2
  have CN := Lib.hid (name_any hst5.read hx5)
  have HST5 := Lib.hid hst5
  have CG := Lib.hid (groups_any hst5.read hx5)
  clear C2 hpp hst5 CP HSL HVL HRW
  go_wp2_with fail
  refine CL2.out.mono ?_
  rintro e w6 ⟨rfl, rfl⟩
  go_wp2_with fail
  refine CN.out.mono ?_
  rintro e w6 ⟨rfl, rfl⟩
  go_wp2_with fail
  refine CG.out.mono ?_
  rintro e w6 ⟨rfl, rfl⟩
  clear CL2 CN CG
  have hbw5 : Below w.heap.size w w5 := hbw4.trans (hb5.mono hlo1)
  go_wp2_with fail
  go_loopg [14] n3 (fun k i wr => ∃ l : Nat, k = n3 - l ∧ l ≤ n3 ∧ i = .int .i64 l ∧ Below w5.heap.size w5 wr)
  case atStart => exact ⟨0, rfl, Nat.zero_le _, rfl, Below.refl _ _⟩
  case round =>
    obtain ⟨l, hkk, hl, rfl, hbel⟩ := hrel
    have KK := Lib.hid hkk; clear hkk
    by_cases hlt : l < n3
    · rcases (HV3.out.later (below_next hbel hbw5)).split with h | ⟨b', o', hab, hc⟩
      · exfalso; omega
      injection hab with hab
      injection hab with hab1 hab2
      subst hab1 hab2
      have c1 := hc.out l hlt
      have c2 := (HRW5.out.later hbel).cell (j := l) (u := .string (z3.getD l ByteArray.empty)) (by
        rw [List.getElem?_map, List.getElem?_eq_getElem (by rw [HL3.out]; exact hlt), List.getD_eq_getElem?_getD, List.getElem?_eq_getElem (by rw [HL3.out]; exact hlt)]; rfl)
      clear hc
      generalize z3.getD l ByteArray.empty = sl at c1 c2
      have l0 : (0 : Int) ≤ (l : Int) := by omega
      have l1 : (l : Int) < (n3 : Int) := by omega
      go_wp2_with fail
      go_quiet (fail)
      go_wp2_with fail
      go_roundg (n3 - (l + 1))
      case measure => rw [KK.out]; omega
      case rel => exact ⟨l + 1, rfl, by omega, by go_num, below_drewN hbel _⟩
    · have HSTA := Lib.hid (HST5.out.later hbel)
      have CR := Lib.hid (prefix_any (HSR5.out.later hbel) HSTA.out.read (by rw [HFL.out]) (by rw [hel5]; omega) (by rw [hel5]; omega) (by rw [← HL0.out]; exact agree_app HGA.out))

      go_wp2_with fail
      refine CR.out.mono ?_
      rintro e w6 ⟨rfl, hb6⟩
      have hb56 := below_next hb6 hbel
      clear CR
      have CQ := Lib.hid (pop_any w2.heap.size bl v5 es ⟨st, some ⟨r, 0, none⟩, n3, n3, z3⟩ w6.heap.size 1 1 (⟨#[121]⟩ : ByteArray) (w6.alloc (.cells #[.string ⟨#[121]⟩] 9)) (HST5.out.later (hb56.alloc hb56.size _)) ((Row.of_blk (Blk.new w6 9 #[.string ⟨#[121]⟩]) rfl).cell (j := 0) rfl) (by omega) (by rw [HEL.out]; omega)
        (by simp; exact Nat.le_trans hlo2 (Nat.le_trans hb5.size (Nat.le_trans hb56.size (Nat.le_succ _)))) (by decide))
      go_wp2_with fail
      refine (popW (CQ.out.mono fun e w' h => ⟨.inl h.1, h⟩)).mono ?_
      intro e w7 hqq
      obtain ⟨rfl, hsr7, hb7, -, -⟩ := id hqq
      have hb57 := hb56.alloc hb56.size (.cells #[.string ⟨#[121]⟩] 9)
      have HSR7 := Lib.hid (hqq.other (HSR5.out.later hb57) hbl)
      have CS := Lib.hid (stack_any hsr7 HSR7.out (by rw [HEL.out, HFL.out]) (by rw [HFL.out]; omega) (by rw [HFL.out, ← HL0.out]; exact HAG.out))
      clear hqq hsr7 CQ
      go_wp2_with fail
      refine CS.out.mono ?_
      rintro e w8 ⟨rfl, hb8⟩
      have hs1 := hb57.size
      have hs2 := hb7.size
      have hs3 := hbw5.size
      go_wp2_with fail
      go_ret
      exact ⟨rfl, ((hbw5.trans (hb57.mono hbw5.size)).trans (hb7.mono hlo1)).trans (hb8.mono (by omega))⟩
end fnPushThenPopRestoresStack
end Go.Proofs.Ytjgmknlkgpfpkaa
