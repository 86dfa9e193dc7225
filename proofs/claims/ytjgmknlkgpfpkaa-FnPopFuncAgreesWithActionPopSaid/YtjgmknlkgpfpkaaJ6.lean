/-
  The walk of FnPopFuncUndoesPushFunc. Conditions: none beyond the statement's own.
-/
import Derived.Test.YtjgmknlkgpfpkaaJ5
namespace Go.Proofs.Ytjgmknlkgpfpkaa
open Go.RowKit
set_option linter.unusedSimpArgs false
set_option linter.unusedVariables false
theorem StkO.row_lt {lo : Nat} {w : World} {b : Nat} {v : Value} {es : List Ent} (h : StkO lo w b v es) : ∀ g, v.ownBlock = some g → g < w.heap.size := by
  obtain ⟨h1, h2, h3, h4⟩ := h
  intro g hg
  rcases own_row h3 with ⟨h, -, -⟩ | ⟨g', c, _, h, -, -, hr⟩
  · rw [h] at hg; cases hg
  · rw [h] at hg; injection hg with hg; subst hg; exact hr.lt
theorem PushPost.other {lo hi : Nat} {w w' : World} {b br : Nat} {v : Value} {es fs : List Ent} {x : Ent} {e : Ending} (h : PushPost lo w b v es x e w') (hr : StkR hi w br fs) (hb : b < hi) (hv : ∀ g, v.ownBlock = some g → g < hi) : StkR hi w' br fs :=
  hr.keep (fun i hi hlt => h.2.2.2.1 i hlt (by omega) (fun e => by have := hv i e.symm; omega)) h.2.2.2.2
theorem PopPost.other {lo hi : Nat} {w w' : World} {b br : Nat} {es fs : List Ent} {e : Ending} (h : PopPost lo w b es e w') (hr : StkR hi w br fs) (hb : b < hi) : StkR hi w' br fs :=
  hr.keep (fun i hi hlt => h.2.2.2.1 i hlt (by omega)) h.2.2.2.2
theorem keys_agree {es fs : List Ent} {z g : List ByteArray} (he : es.map Ent.key = stackKeys z g) (hf : fs.map Ent.key = stackKeys z g) (k : Nat) (hk : k ≤ z.length + 1) : es.length = z.length + 1 ∧ fs.length = z.length + 1 ∧ Agree es fs k := by
  have h1 : es.length = z.length + 1 := by have := congrArg List.length he; rw [List.length_map, stackKeys_length] at this; exact this
  have h2 : fs.length = z.length + 1 := by have := congrArg List.length hf; rw [List.length_map, stackKeys_length] at this; exact this
  exact ⟨h1, h2, agree_of (by rw [he, hf]) (by omega) (by omega) (by rw [he]; exact stackKeys_len z g)⟩
theorem agree_app {es fs : List Ent} {k : Nat} {ys : List Ent} (h : Agree fs es k) : Agree fs (es ++ ys) k := fun i hi => by
  obtain ⟨x, y, h1, h2, h3⟩ := h i hi
  exact ⟨x, y, h1, by rw [List.getElem?_append_left (lt_of_get h2)]; exact h2, h3⟩
namespace fnPopFuncUndoesPushFunc
set_option maxHeartbeats 8000000 in
set_option maxRecDepth 100000 in
theorem walk (A0 : Option Addr) (n0 c0 : Nat) (z0 : List ByteArray) (A1 : Option Addr) (n1 c1 : Nat) (z1 : List ByteArray) (st : ByteArray) (A3 : Option Addr) (n3 c3 : Nat) (z3 : List ByteArray) (w : World) (hv0 : Strs w A0 n0 z0) (hv1 : Strs w A1 n1 z1) (hst : st.size ≤ maxLen) (hv3 : Strs w A3 n3 z3) :
    Calls Try.prog 3 #[.slice A0 n0 c0, .slice A1 n1 c1, .string st, .slice A3 n3 c3] w fun e w' => e = .returned (.bool true) ∧ Below w.heap.size w w' := by
  have HV0 := Lib.hid hv0
  have HV1 := Lib.hid hv1
  have HV3 := Lib.hid hv3
  have HL0 := Lib.hid hv0.1
  have HL3 := Lib.hid hv3.1
  have HST := Lib.hid hst
  clear hv0 hv1 hv3 hst
  go_enter Try.func3, Try.ntmps3
  go_wp2_with fail
  refine (zzA A0 n0 c0 z0 A1 n1 c1 z1 st A3 n3 c3 z3 _ HV0.out HV1.out HST.out HV3.out).mono ?_
  rintro e w1 ⟨b, rfl, rfl, hb⟩
  cases b
  · go_wp2_with fail
    go_ret
    exact ⟨rfl, Below.refl _ _⟩
  obtain ⟨hn0, hs0, hn1, hs1, hst, hn3, hs3⟩ := hb rfl
  clear hb
  go_wp2_with fail
  refine (strBytes_any A0 n0 c0 z0 _ HV0.out hn0 hs0).mono ?_
  rintro e w1 ⟨r0, rfl, hr0, rfl⟩
  go_wp2_with fail
  refine (strBytes_any A1 n1 c1 z1 _ HV1.out hn1 hs1).mono ?_
  rintro e w1 ⟨r1, rfl, hr1, rfl⟩
  go_wp2_with fail
  refine (strBytes_any A3 n3 c3 z3 _ HV3.out hn3 hs3).mono ?_
  rintro e w1 ⟨r3, rfl, hr3, rfl⟩
  by_cases hrr : r0 + r1 + r3 + st.size ≤ 1048576
  case neg =>
    go_wp2_with fail
    go_ret
    exact ⟨rfl, Below.refl _ _⟩
  by_cases hs : n0 ≤ 4096 ∧ n1 ≤ 4096 ∧ n3 ≤ 4096 ∧ st.size ≤ 65536
  case neg =>
    go_wp2_with fail
    all_goals first | (exfalso; omega) | (go_ret; exact ⟨rfl, Below.refl _ _⟩)
  obtain ⟨k0, k1, k3, kst⟩ := hs
  by_cases hz : n3 = 0
  · subst hz
    go_wp2_with fail
    go_ret
    exact ⟨rfl, Below.refl _ _⟩
  have hz' : ((n3 : Int) == 0) = false := by simpa using hz
  have hzi : (0 : Int) < (n3 : Int) := by omega
  have hzn : 0 < n3 := by omega
  rcases HV3.out.split with h | ⟨bg, og, rfl, hcg⟩
  · exfalso; omega
  have hc0 := hcg.out 0 hzn
  rw [Nat.add_zero] at hc0
  obtain ⟨s0, hs0d⟩ : ∃ x, x = z3.getD 0 ByteArray.empty := ⟨_, rfl⟩
  rw [← hs0d] at hc0
  have HS0 := Lib.hid hs0d
  clear hs0d hcg hz
  by_cases hse : s0.size = 0
  · have he : s0.toList.isEmpty = true := by rw [toList_empty]; simpa using hse
    go_wp2_with fail
    go_ret
    exact ⟨rfl, Below.refl _ _⟩
  have he : s0.toList.isEmpty = false := by rw [toList_empty]; simpa using hse
  have hsp : 0 < s0.size := by omega
  clear hse
  go_wp2_with fail
  refine (clone_any _ n3 c3 z3 _ HV3.out hzn (by omega)).mono ?_
  rintro e w2 ⟨r, rfl, hrow, hb2⟩
  clear hc0 he hr0 hr1 hr3 hrr
  go_wp2_with fail
  refine (build_any A0 n0 c0 z0 A1 n1 c1 z1 _ (HV0.out.later hb2) (HV1.out.later hb2) k0 k1 hs1).mono ?_
  rintro e w3 ⟨bl, vl, es, rfl, hsl, hke, hb3⟩
  have hbw3 := below_next hb3 hb2
  go_wp2_with fail
  refine (build_any A0 n0 c0 z0 A1 n1 c1 z1 _ (HV0.out.later hbw3) (HV1.out.later hbw3) k0 k1 hs1).mono ?_
  rintro e w4 ⟨br, vr, fs, rfl, hsr, hkf, hb4⟩
  have hbw4 := below_next hb4 hbw3
  have HRW := Lib.hid ((hrow.later hb3).later hb4)
  have hbl := hsl.2.1.lt
  have HVL := Lib.hid hsl.row_lt
  have HSL := Lib.hid (hsl.later hb4)
  have HSR := Lib.hid hsr.read
  obtain ⟨hel, hfl, hag⟩ := keys_agree hke hkf (z0.length + 1) (Nat.le_refl _)
  obtain ⟨-, -, hga⟩ := keys_agree hkf hke (z0.length + 1) (Nat.le_refl _)
  have HAG := Lib.hid hag
  have HGA := Lib.hid hga
  rw [HL0.out] at hel hfl
  have HEL := Lib.hid hel
  have HFL := Lib.hid hfl
  have hlo2 : w2.heap.size ≤ w4.heap.size := Nat.le_trans hb3.size hb4.size
  have hlo1 : w.heap.size ≤ w2.heap.size := hb2.size
  clear hsl hsr hrow hke hkf hag hga hel hfl hb2 hb3 hb4 hbw3
  have C1 := len_any HSL.out.read
  rw [HEL.out] at C1
  have CL1 := Lib.hid C1
  clear C1
  go_wp2_with fail
  refine CL1.out.mono ?_
  rintro e w5 ⟨rfl, rfl⟩
  have HSZ0 : Hid (0 < (z3.getD 0 ByteArray.empty).size) := by show 0 < _; rw [← HS0.out]; exact hsp
  have CP := Lib.hid (push_any w2.heap.size st bl vl es (some ⟨r, 0, none⟩) n3 n3 z3 w4 HSL.out ⟨HL3.out.symm, .inr ⟨r, rfl, HRW.out⟩⟩ (by rw [HEL.out]; omega) hlo2 HSZ0.out)
  clear CL1
  go_wp2_with fail
  refine (pushF (CP.out.mono fun e w' h => ⟨.inl h.1, h⟩)).mono ?_
  intro e w5 hpp
  obtain ⟨rfl, hst5, -⟩ := id hpp
  obtain ⟨v5, hst5⟩ := hst5
  have HSR5 := Lib.hid (hpp.other HSR.out hbl HVL.out)
  have HRW5 := Lib.hid (hpp.2.2.2.2 _ _ HRW.out)
  have hb5 := hpp.2.2.1
  have hel5 : (es ++ [(⟨st, some ⟨r, 0, none⟩, n3, n3, z3⟩ : Ent)]).length = n0 + 1 + 1 := by rw [List.length_append, HEL.out]; rfl
  have hx5 : (es ++ [(⟨st, some ⟨r, 0, none⟩, n3, n3, z3⟩ : Ent)])[n0 + 1]? = some ⟨st, some ⟨r, 0, none⟩, n3, n3, z3⟩ := by rw [List.getElem?_append_right (by rw [HEL.out]; exact Nat.le_refl _), HEL.out]; simp
  have C2 := len_any hst5.read
  rw [hel5] at C2
  have CL2 := Lib.hid C2
  have CN := Lib.hid (name_any hst5.read hx5)
  have HST5 := Lib.hid hst5
  clear C2 hpp hst5 CP HSL HVL HRW
  go_wp2_with fail
  refine CL2.out.mono ?_
  rintro e w6 ⟨rfl, rfl⟩
  go_wp2_with fail
  refine CN.out.mono ?_
  rintro e w6 ⟨rfl, rfl⟩
  have hc5 : w5.cell? ⟨r, 0, none⟩ = some (.string s0) := by
    refine HRW5.out.cell ?_
    rw [List.getElem?_map, List.getElem?_eq_getElem (by rw [HL3.out]; exact hzn), HS0.out, List.getD_eq_getElem?_getD, List.getElem?_eq_getElem (by rw [HL3.out]; exact hzn)]; rfl
  have CQ := Lib.hid (pop_any w2.heap.size bl v5 es ⟨st, some ⟨r, 0, none⟩, n3, n3, z3⟩ r n3 n3 s0 w5 HST5.out hc5 hzn (by rw [HEL.out]; omega) (Nat.le_trans hlo2 hb5.size) hsp)
  clear hc5 CL2 CN
  go_wp2_with fail
  refine (popF (CQ.out.mono fun e w' h => ⟨.inl h.1, h⟩)).mono ?_
  intro e w6 hqq
  obtain ⟨rfl, hsr6, hb6, -, -⟩ := id hqq
  have HSR6 := Lib.hid (hqq.other HSR5.out hbl)
  have CS := Lib.hid (stack_any hsr6 HSR6.out (by rw [HEL.out, HFL.out]) (by rw [HFL.out]; omega) (by rw [HFL.out, ← HL0.out]; exact HAG.out))
  clear hqq hsr6 CQ
  go_wp2_with fail
  refine CS.out.mono ?_
  rintro e w7 ⟨rfl, hb7⟩
  go_wp2_with fail
  go_ret
  exact ⟨rfl, ((hbw4.trans (hb5.mono hlo1)).trans (hb6.mono hlo1)).trans (hb7.mono (Nat.le_trans hbw4.size (Nat.le_trans hb5.size hb6.size)))⟩
end fnPopFuncUndoesPushFunc
end Go.Proofs.Ytjgmknlkgpfpkaa
