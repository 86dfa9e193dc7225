/-
  The walk of FnPopFuncAgreesWithActionPop. Conditions: none beyond the statement's own.
-/
import Derived.Test.YtjgmknlkgpfpkaaJ6
namespace Go.Proofs.Ytjgmknlkgpfpkaa
open Go.RowKit
set_option linter.unusedSimpArgs false
set_option linter.unusedVariables false
theorem agree_pre {es fs : List Ent} {k m : Nat} (h : Agree es fs k) (hm : m ≤ k) : Agree es fs m := fun i hi => h i (by omega)
theorem agree_left {es fs ys : List Ent} {k : Nat} (h : Agree (es ++ ys) fs k) (hk : k ≤ es.length) : Agree es fs k := fun i hi => by
  obtain ⟨x, y, h1, h2, h3⟩ := h i hi
  exact ⟨x, y, by rw [List.getElem?_append_left (by omega)] at h1; exact h1, h2, h3⟩
theorem agree_right {es fs ys : List Ent} {k : Nat} (h : Agree es (fs ++ ys) k) (hk : k ≤ fs.length) : Agree es fs k := fun i hi => by
  obtain ⟨x, y, h1, h2, h3⟩ := h i hi
  exact ⟨x, y, h1, by rw [List.getElem?_append_left (by omega)] at h2; exact h2, h3⟩
theorem snoc_of {es : List Ent} {n : Nat} (h : es.length = n + 1) : ∃ ys x, es = ys ++ [x] ∧ ys.length = n := by
  rcases List.eq_nil_or_concat es with e | ⟨ys, x, e⟩
  · rw [e] at h; simp at h
  · refine ⟨ys, x, by rw [e]; simp, ?_⟩
    rw [e] at h; simp at h; omega
theorem StkO.keep {lo : Nat} {w w' : World} {b : Nat} {v : Value} {es : List Ent} (h : StkO lo w b v es) (hb : ∀ i, lo ≤ i → i < w.heap.size → w'.heap[i]? = w.heap[i]?) (hs : ∀ r xs, Row w r 9 xs → Row w' r 9 xs) : StkO lo w' b v es := by
  have hrl := h.row_lt
  obtain ⟨h1, h2, h3, h4⟩ := h
  exact ⟨h1, h2.block (hb _ h1 h2.lt), own_keep h3 fun g hg => hb g (own_base h3 g hg) (hrl g hg), fun e he => (h4 e he).keep hs⟩
theorem StkR.keepB {lo : Nat} {w w' : World} {b : Nat} {es : List Ent} (h : StkR lo w b es) (hb : w'.heap[b]? = w.heap[b]?) (hr : ∀ g xs, Row w g 49 xs → Row w' g 49 xs) (hs : ∀ r xs, Row w r 9 xs → Row w' r 9 xs) : StkR lo w' b es := by
  obtain ⟨h1, A, c, h2, h3, h4⟩ := h
  refine ⟨h1, A, c, h2.block hb, ?_, fun e he => (h4 e he).keep hs⟩
  rcases h3 with h3 | ⟨g, h5, h6, h7⟩
  · exact .inl h3
  · exact .inr ⟨g, h5, h6, hr _ _ h7⟩
theorem PopPost.row {lo : Nat} {w w' : World} {b g : Nat} {t : TypeId} {v : Value} {es : List Ent} {e : Ending} {xs : List Value} (h : PopPost lo w b es e w') (hl : Lx w b v) (ht : t ≠ 44) (hr : Row w g t xs) : Row w' g t xs := by
  obtain ⟨cs, hb, _⟩ := hl
  exact hr.of_block (h.2.2.2.1 g hr.lt (hr.ne_blk hb ht))
namespace fnPopFuncAgreesWithActionPop
set_option maxHeartbeats 8000000 in
set_option maxRecDepth 100000 in
theorem walk (A0 : Option Addr) (n0 c0 : Nat) (z0 : List ByteArray) (A1 : Option Addr) (n1 c1 : Nat) (z1 : List ByteArray) (A3 : Option Addr) (n3 c3 : Nat) (z3 : List ByteArray) (w : World) (hv0 : Strs w A0 n0 z0) (hv1 : Strs w A1 n1 z1) (hv3 : Strs w A3 n3 z3) :
    Calls Try.prog 4 #[.slice A0 n0 c0, .slice A1 n1 c1, .slice A3 n3 c3] w fun e w' => e = .returned (.bool true) ∧ Below w.heap.size w w' := by
  have HV0 := Lib.hid hv0
  have HV1 := Lib.hid hv1
  have HV3 := Lib.hid hv3
  have HL0 := Lib.hid hv0.1
  have HL3 := Lib.hid hv3.1
  clear hv0 hv1 hv3
  go_enter Try.func4, Try.ntmps4
  go_wp2_with fail
  refine (zzB A0 n0 c0 z0 A1 n1 c1 z1 A3 n3 c3 z3 _ HV0.out HV1.out HV3.out).mono ?_
  rintro e w1 ⟨b, rfl, rfl, hb⟩
  cases b
  · go_wp2_with fail
    go_ret
    exact ⟨rfl, Below.refl _ _⟩
  obtain ⟨hn0, hs0, hn1, hs1, hn3, hs3⟩ := hb rfl
  clear hb
  go_wp2_with fail
  refine (strBytes_any A0 n0 c0 z0 _ HV0.out hn0 hs0).mono ?_
  rintro e w1 ⟨r0, rfl, hr0, rfl⟩
  go_wp2_with fail
  refine (strBytes_any A1 n1 c1 z1 _ HV1.out hn1 hs1).mono ?_
  rintro e w1 ⟨r1, rfl, hr1, rfl⟩
  go_wp2_with fail
  refine (strBytes_any A3 n3 c3 z3 _ HV3.out hn3 hs3).mono ?_
  rintro e w1 ⟨r3, rfl, hr3, rfl⟩
  by_cases hrr : r0 + r1 + r3 ≤ 1048576
  case neg =>
    go_wp2_with fail
    go_ret
    exact ⟨rfl, Below.refl _ _⟩
  by_cases hs : n0 ≤ 4096 ∧ n1 ≤ 4096 ∧ n3 ≤ 4096
  case neg =>
    go_wp2_with fail
    all_goals first | (exfalso; omega) | (go_ret; exact ⟨rfl, Below.refl _ _⟩)
  obtain ⟨k0, k1, k3⟩ := hs
  by_cases hz : n3 = 0
  · subst hz
    go_wp2_with fail
    go_ret
    exact ⟨rfl, Below.refl _ _⟩
  have hz' : ((n3 : Int) == 0) = false := by simpa using hz
  have hzi : (0 : Int) < (n3 : Int) := by omega
  have hzn : 0 < n3 := by omega
  clear hz
  go_wp2_with fail
  refine (clone_any _ n3 c3 z3 _ HV3.out hzn (by omega)).mono ?_
  rintro e w2 ⟨r, rfl, hrow, hb2⟩
  clear hr0 hr1 hr3 hrr
  go_wp2_with fail
  refine (build_any A0 n0 c0 z0 A1 n1 c1 z1 _ (HV0.out.later hb2) (HV1.out.later hb2) k0 k1 hs1).mono ?_
  rintro e w3 ⟨ba, va, es, rfl, hsa, hke, hb3⟩
  have hbw3 := below_next hb3 hb2
  go_wp2_with fail
  refine (build_any A0 n0 c0 z0 A1 n1 c1 z1 _ (HV0.out.later hbw3) (HV1.out.later hbw3) k0 k1 hs1).mono ?_
  rintro e w4 ⟨bb, vb, fs, rfl, hsb, hkf, hb4⟩
  have hbw4 := below_next hb4 hbw3
  go_wp2_with fail
  refine (build_any A0 n0 c0 z0 A1 n1 c1 z1 _ (HV0.out.later hbw4) (HV1.out.later hbw4) k0 k1 hs1).mono ?_
  rintro e w5 ⟨br, vr, gs, rfl, hsr, hkg, hb5⟩
  have hbw5 := below_next hb5 hbw4
  have HRW := Lib.hid (((hrow.later hb3).later hb4).later hb5)
  have hba := hsa.2.1.lt
  have hbb := hsb.2.1.lt
  have hbb0 := hsb.1
  have hbr0 := hsr.1
  have HSA := Lib.hid ((hsa.later hb4).later hb5)
  have HSB := Lib.hid (hsb.later hb5)
  have HSR := Lib.hid hsr.read
  obtain ⟨hel, hfl, hag⟩ := keys_agree hke hkf (z0.length + 1) (Nat.le_refl _)
  obtain ⟨-, hgl, hah⟩ := keys_agree hke hkg (z0.length + 1) (Nat.le_refl _)
  have HAG := Lib.hid hag
  have HAH := Lib.hid hah
  rw [HL0.out] at hel hfl hgl
  have HEL := Lib.hid hel
  have HFL := Lib.hid hfl
  have HGL := Lib.hid hgl
  have hlo1 : w.heap.size ≤ w2.heap.size := hb2.size
  have hlo2 : w2.heap.size ≤ w3.heap.size := hb3.size
  have hlo3 : w3.heap.size ≤ w4.heap.size := hb4.size
  have hlo4 : w4.heap.size ≤ w5.heap.size := hb5.size
  have hc5 : w5.cell? ⟨r, 0, none⟩ = some (.string (z3.getD 0 ByteArray.empty)) := by
    refine HRW.out.cell ?_
    rw [List.getElem?_map, List.getElem?_eq_getElem (by rw [HL3.out]; exact hzn), List.getD_eq_getElem?_getD, List.getElem?_eq_getElem (by rw [HL3.out]; exact hzn)]; rfl
  clear hsa hsb hsr hrow hke hkf hkg hag hah hel hfl hgl hb2 hb3 hb4 hb5 hbw3 hbw4
  have hcell : ∀ W, Row W r 9 (z3.map Value.string) → W.cell? ⟨r, 0, none⟩ = some (.string (z3.getD 0 ByteArray.empty)) := fun W h => by
    refine h.cell ?_
    rw [List.getElem?_map, List.getElem?_eq_getElem (by rw [HL3.out]; exact hzn), List.getD_eq_getElem?_getD, List.getElem?_eq_getElem (by rw [HL3.out]; exact hzn)]; rfl
  generalize z3.getD 0 ByteArray.empty = s0 at hc5 hcell
  by_cases hse : s0.size = 0
  · have he : s0.toList.isEmpty = true := by rw [toList_empty]; simpa using hse
    have CA := Lib.hid (pop_empty ba r n3 n3 s0 w5 hc5 hzn hse)
    have CBX := Lib.hid fun W (h : Below w5.heap.size w5 W) => pop_empty bb r n3 n3 s0 W ((h.cell (p := ⟨r, 0, none⟩) (World.block_lt_of_cell? _ _ hc5)).trans hc5) hzn hse
    have HC5 := Lib.hid hc5
    clear hc5 hcell
    go_wp2_with fail
    refine (popF (CA.out.mono fun e w' h => ⟨.inr (by obtain ⟨t, v, rfl, -⟩ := h; exact ⟨t, v, rfl⟩), h⟩)).mono ?_
    rintro e w6 ⟨t1, u1, rfl, hb6⟩
    have CB := Lib.hid (CBX.out w6 hb6)
    clear CA CBX
    go_wp2_with fail
    refine (popW (CB.out.mono fun e w' h => ⟨.inr (by obtain ⟨t, v, rfl, -⟩ := h; exact ⟨t, v, rfl⟩), h⟩)).mono ?_
    rintro e w7 ⟨t2, u2, rfl, hb7⟩
    have hb57 := below_next hb7 hb6
    have hc7 := (hb57.cell (p := ⟨r, 0, none⟩) (World.block_lt_of_cell? _ _ HC5.out)).trans HC5.out
    have CS := Lib.hid (stack_any (HSA.out.later hb57).read (HSB.out.later hb57).read (by rw [HEL.out, HFL.out]) (by rw [HFL.out]; omega) (by rw [HFL.out, ← HL0.out]; exact HAG.out))
    clear CB
    go_wp2_with fail
    refine CS.out.mono ?_
    rintro e w8 ⟨rfl, hb8⟩
    have hb58 := below_next hb8 hb57
    have CT := Lib.hid (stack_any (HSA.out.later hb58).read (HSR.out.later hb58) (by rw [HEL.out, HGL.out]) (by rw [HGL.out]; omega) (by rw [HGL.out, ← HL0.out]; exact HAH.out))
    clear CS hc7
    go_wp2_with fail
    refine CT.out.mono ?_
    rintro e w9 ⟨rfl, hb9⟩
    have hb59 := below_next hb9 hb58
    go_wp2_with fail
    go_ret
    exact ⟨rfl, hbw5.trans (hb59.mono hbw5.size)⟩
  have he : s0.toList.isEmpty = false := by rw [toList_empty]; simpa using hse
  have hsp : 0 < s0.size := by omega
  clear hse
  obtain ⟨ea, xa, rfl, hea⟩ := snoc_of HEL.out
  obtain ⟨fa, xf, rfl, hfa⟩ := snoc_of HFL.out
  have HCE := Lib.hid hcell
  clear hcell
  have CA := Lib.hid (pop_any w2.heap.size ba va ea xa r n3 n3 s0 w5 HSA.out hc5 hzn (by omega) (by omega) hsp)
  clear hc5
  go_wp2_with fail
  refine (popF (CA.out.mono fun e w' h => ⟨.inl h.1, h⟩)).mono ?_
  intro e w6 hpa
  obtain ⟨rfl, hsa6, hb6, hoa, hsa'⟩ := id hpa
  have hsb6 : StkO w3.heap.size w6 bb vb (fa ++ [xf]) := HSB.out.keep (fun i hi hlt => hoa i hlt (by omega)) hsa'
  have HSB6 := Lib.hid hsb6
  have HSR6 := Lib.hid (hpa.other HSR.out (show ba < w4.heap.size by omega))
  have HRW6 := Lib.hid (hsa' _ _ HRW.out)
  have hc6 : w6.cell? ⟨r, 0, none⟩ = some (.string s0) := HCE.out w6 HRW6.out
  have CB := Lib.hid (pop_any w3.heap.size bb vb fa xf r n3 n3 s0 w6 HSB6.out hc6 hzn (by omega) (Nat.le_trans (Nat.le_trans hlo3 hlo4) hb6.size) hsp)
  have HA6 := Lib.hid hsa6
  clear hc6 CA hsa6 hsb6 hpa hoa hsa'
  go_wp2_with fail
  refine (popW (CB.out.mono fun e w' h => ⟨.inl h.1, h⟩)).mono ?_
  intro e w7 hpb
  obtain ⟨rfl, hsb7, hb7, hob, hsb'⟩ := id hpb
  have hsa7 : StkR w2.heap.size w7 ba ea := HA6.out.keepB (hob ba (HA6.out.2.choose_spec.choose_spec.1.lt) (by omega)) (fun g xs h => hpb.row HSB6.out.2.1 (by decide) h) hsb'
  have HSR7 := Lib.hid (hpb.other HSR6.out hbb)
  have HA7 := Lib.hid hsa7
  have hc7 : w7.cell? ⟨r, 0, none⟩ = some (.string s0) := HCE.out w7 (hsb' _ _ HRW6.out)
  have hag2 : Agree ea fa n0 := agree_right (agree_left (agree_pre HAG.out (show n0 ≤ z0.length + 1 by rw [HL0.out]; omega)) (by omega)) (by omega)
  have hah2 : Agree ea gs n0 := agree_left (agree_pre HAH.out (show n0 ≤ z0.length + 1 by rw [HL0.out]; omega)) (by omega)
  have HAH2 := Lib.hid hah2
  have CS := Lib.hid (stack_any hsa7 hsb7 (by omega) (by omega) (by rw [hfa]; exact hag2))
  clear CB hpb hob hsb' hsa7 hsb7 hag2 hah2
  go_wp2_with fail
  refine CS.out.mono ?_
  rintro e w8 ⟨rfl, hb8⟩
  have C1 := len_any (HSR7.out.later hb8)
  rw [HGL.out] at C1
  have CL := Lib.hid C1
  have CT := Lib.hid (prefix_any (HA7.out.later hb8) (HSR7.out.later hb8) hea (by rw [HGL.out]; omega) (by rw [HGL.out]; omega) HAH2.out)
  have e1 : (n0 : Int) + 1 - 1 = (n0 : Int) := by omega
  clear C1 CS hc7
  go_wp2_with fail
  refine CL.out.mono ?_
  rintro e w9 ⟨rfl, rfl⟩
  go_wp2_with fail
  refine CT.out.mono ?_
  rintro e w9 ⟨rfl, hb9⟩
  have hb79 := below_next hb9 hb8
  have s5 := hbw5.size
  have s6 := hb6.size
  have s7 := hb7.size
  go_wp2_with fail
  go_ret
  exact ⟨rfl, ((hbw5.trans (hb6.mono hlo1)).trans (hb7.mono (by omega))).trans (hb79.mono (by omega))⟩
end fnPopFuncAgreesWithActionPop
end Go.Proofs.Ytjgmknlkgpfpkaa
