/-
  MakeSymbolTable over the text scanner's definition. Conditions: F answers the tape; at most 65536 names.
-/
import Derived.Test.YtidennjnaihfbaaFmtG1
namespace Go.Proofs.YtidennjnaihfbaaFmt
open Go.RowKit Go.Extern.Stop Go.Stop Go.Extern
set_option linter.unusedSimpArgs false
set_option linter.unusedVariables false
theorem heap_new' (W : World) (o : Obj) (b : Nat) (h : b = W.heap.size) : (W.alloc o).heap[b]? = some o := by subst h; exact heap_alloc_new W o
def tl (c : Int) : Lit := .int .i64 c
def tt : DataW Unit := .lit (.bool true)
/-- The table of a list of names. -/
noncomputable def tabD (z : List ByteArray) : DataW Unit := Maps.setOf tt (z.map (fun s => tl (code s)))
def TM (w : World) (b n : Nat) (D : DataW Unit) : Prop := w.ownsMap Tryf.prog 31 (plainElem Tryf.prog 4) b n D
theorem code_range (s : ByteArray) : -8 ≤ code s ∧ code s ≤ 0 := by
  rcases name_cases s with ⟨j, hj, rfl⟩ | h
  · rw [code_name j hj]
    match j, hj with
    | 0, _ | 1, _ | 2, _ | 3, _ | 4, _ | 5, _ | 6, _ | 7, _ => exact ⟨by decide, by decide⟩
  · rw [code_other h]; exact ⟨by decide, by decide⟩
theorem code_wf (s : ByteArray) : (Lit.int .i64 (code s)).wf = true := by
  have := code_range s
  simp [Lit.wf, IntKind.min, IntKind.max, IntKind.signed, IntKind.bits]
  omega
theorem sym_known {s : ByteArray} (h : code s ≠ 0) : symD.atKey (kl s) (el 0) = el (code s) ∧ Maps.has symD (kl s) = true := by
  rcases name_cases s with ⟨j, hj, rfl⟩ | h'
  · rw [code_name j hj]; exact symD_at j hj
  · exact absurd (code_other h') h
theorem sym_unknown {s : ByteArray} (h : code s = 0) : Maps.has symD (kl s) = false := by
  rcases name_cases s with ⟨j, hj, rfl⟩ | h'
  · rw [code_name j hj] at h
    match j, hj with
    | 0, _ | 1, _ | 2, _ | 3, _ | 4, _ | 5, _ | 6, _ | 7, _ => exact absurd h (by decide)
  · exact symD_none h'
theorem tabD_snoc (z : List ByteArray) (j : Nat) (h : j < z.length) : (tabD (z.take j)).put (tl (code (z.getD j ByteArray.empty))) tt = tabD (z.take (j + 1)) := by
  unfold tabD
  rw [PS.take_snoc z j h, List.map_append, List.map_cons, List.map_nil, Maps.setOf_snoc]
theorem tab_tidy (z : List ByteArray) : Maps.Tidy (tabD z) := Maps.tidy_setOf _ _ (fun x hx => by
  obtain ⟨s, -, rfl⟩ := List.mem_map.1 hx
  exact trivial)
theorem tab_isMap (z : List ByteArray) : Maps.IsMap (tabD z) := by
  obtain ⟨es, h, -⟩ := tab_tidy z
  exact ⟨es, h⟩
theorem tab_at (z : List ByteArray) (c : Int) : (tabD z).atKey (tl c) (.lit (.bool false)) = .lit (.bool (z.any (fun s => decide (code s = c)))) := by
  suffices h : ∀ n, n ≤ z.length → (tabD (z.take n)).atKey (tl c) (.lit (.bool false)) = .lit (.bool ((z.take n).any (fun s => decide (code s = c)))) by
    have := h z.length (Nat.le_refl _)
    rwa [List.take_length] at this
  intro n
  induction n with
  | zero => intro _; rw [List.take_zero]; rfl
  | succ n ih =>
    intro hn
    have hlt : n < z.length := by omega
    rw [← tabD_snoc z n hlt, PS.take_snoc z n hlt, List.any_append]
    generalize z.getD n ByteArray.empty = sn
    by_cases hc : code sn = c
    · rw [hc, Maps.atKey_put_same (tab_isMap _) (show WideAt.IsKeyLit (tl c) from trivial)]
      simp [hc, tt]
    · rw [Maps.atKey_put_other (fun e => hc (by unfold tl at e; injection e with _ e; exact e.symm)), ih (by omega)]
      simp [hc]
theorem tab_has (z : List ByteArray) (c : Int) : Maps.has (tabD z) (tl c) = z.any (fun s => decide (code s = c)) := by
  unfold tabD
  rw [Maps.has_setOf _ _ _ (fun x hx => by
    obtain ⟨s, -, rfl⟩ := List.mem_map.1 hx
    exact trivial), List.any_map]
  congr 1
  funext s
  simp [tl, Lit.sameKey, Function.comp]
theorem tab_size (z : List ByteArray) (j : Nat) (h : j < z.length) : Maps.size (tabD (z.take (j + 1))) = if (z.take j).any (fun s => decide (code s = code (z.getD j ByteArray.empty))) then Maps.size (tabD (z.take j)) else Maps.size (tabD (z.take j)) + 1 := by
  rw [← tabD_snoc z j h, Maps.size_put (tab_tidy _), tab_has]
theorem tokK : Maps.Keyed Tryf.prog 31 := Maps.int_keyed Tryf.underlying31
theorem keyT {c : Int} (h : (Lit.int .i64 c).wf = true) : keyOf Tryf.prog 31 (.int .i64 c) = some (tl c) := Maps.keyOf_int_mk Tryf.underlying31 h
theorem zeroB (w : World) : (zeroValue 4).run Tryf.prog w = .ok (.bool false) w := by kernel_rfl
/-- 'table[c]'. -/
theorem tab_run {w : World} {b n : Nat} {z : List ByteArray} (h : TM w b n (tabD z)) {c : Int} (hc : (Lit.int .i64 c).wf = true) :
    (Instr.lookup 23 (.map (some b)) (.int .i64 c) false).run Tryf.prog w = .ok (.bool (z.any (fun s => decide (code s = c)))) w :=
  BSet.run (P := Tryf.prog) (k := 31) (e := 4) (n := n) (S := fun c => z.any (fun s => decide (code s = c))) ⟨tabD z, h, fun x _ => tab_at z x⟩ Tryf.underlying31 Tryf.underlying4 Tryf.underlying23 (zeroB w) hc
theorem tab_len {w : World} {b n : Nat} {z : List ByteArray} (ty : TypeId) (h : TM w b n (tabD z)) : (Builtin.len_ #[23] ty #[.map (some b)]).run Tryf.prog w = .ok (.int .i64 (Maps.size (tabD z))) w :=
  World.ownsMap.len h Tryf.underlying23 ty
theorem Strs.keep {w w' : World} {A : Option Addr} {n : Nat} {z : List ByteArray} {b : Nat} (h : Strs w A n z) (ht : w.mapTurned w' b) : Strs w' A n z := by
  have hlt : w.heap.size = w'.heap.size := by obtain ⟨es, clock, es', clock', hb, rfl⟩ := ht; simp [ChangeMaps.setBlock]
  have hg := ht.grown
  obtain ⟨es, clock, es', clock', hb, -⟩ := ht
  obtain ⟨h1, h2, h3, h4⟩ := h
  refine ⟨h1, h2, h3, ?_⟩
  rcases h4 with h4 | ⟨b2, off, e, hl2, hc⟩
  · exact .inl h4
  · rcases Nat.eq_zero_or_pos n with h0 | h0
    · exact .inl ⟨h0, List.eq_nil_of_length_eq_zero (by omega)⟩
    · have hne : b2 ≠ b := by
        rintro rfl
        have := hc 0 h0
        simp [World.cell?, hb] at this
      have he := hg.block b2 hl2 (fun e => hne (by injection e))
      exact .inr ⟨b2, off, e, by omega, fun i hi => by rw [← hc i hi]; unfold World.cell?; simp only [he]⟩
/-- Every name of the list is one of the eight. -/
def Known (z : List ByteArray) : Prop := ∀ s ∈ z, code s ≠ 0
theorem known_snoc {z : List ByteArray} {j : Nat} (h : j < z.length) (hk : Known (z.take j)) (hs : code (z.getD j ByteArray.empty) ≠ 0) : Known (z.take (j + 1)) := by
  rw [PS.take_snoc z j h]
  intro s hm
  rcases List.mem_append.1 hm with g | g
  · exact hk s g
  · simp at g; rw [g]; simpa using hs
theorem not_known {z : List ByteArray} {j : Nat} (h : j < z.length) (hs : code (z.getD j ByteArray.empty) = 0) : ¬ Known z := by
  intro hk
  exact hk (z.getD j ByteArray.empty) (by rw [List.getD_eq_getElem?_getD, List.getElem?_eq_getElem h]; exact List.getElem_mem _) hs
/-- What MakeSymbolTable answers. -/
def MstPost (w : World) (n : Nat) (z : List ByteArray) (e : Ending) (w' : World) : Prop := Below w.heap.size w w' ∧
  ((Known z ∧ ∃ b, e = .returned (.tuple #[.map (some b), .nilIface]) ∧ w.heap.size ≤ b ∧ TM w' b n (tabD z)) ∨ (¬ Known z ∧ ∃ q, e = .returned (.tuple #[.map none, .iface 50 (.pointer (some ⟨q, 0, none⟩))])))
set_option maxHeartbeats 2000000 in
set_option maxRecDepth 100000 in
theorem mst_any (F : Interp) (p : Nat) (A : Option Addr) (n c : Nat) (z : List ByteArray) (w : World) (hF : F.answers w.tape) (hv : Strs w A n z) (hn : n ≤ 65536) :
    Calls Tryf.prog 6 #[.iface 44 (.pointer (some ⟨p, 0, none⟩)), .slice A n c] w (MstPost w n z) := by
  have hm : ∀ W : World, (method 198 44 (.pointer (some ⟨p, 0, none⟩)) "Symbols").run Tryf.prog W = .ok (32, .pointer (some ⟨p, 0, none⟩)) W := fun _ => by kernel_rfl
  have hmm := makeMap_hint (P := Tryf.prog) 23 31 4 Tryf.underlying23
  have HFt := Lib.hid hF
  have HL := Lib.hid hv.1
  have HV := Lib.hid hv
  clear hF hv
  go_enter Tryf.func6, Tryf.ntmps6
  go_wp2_with fail
  refine (symbols_any p _).mono ?_
  rintro e w1 ⟨rfl, hs1, hb1⟩
  obtain ⟨wo, rfl⟩ : ∃ x, x = w := ⟨_, rfl⟩
  have hv1 := HV.out.later hb1
  have hb2 : Below wo.heap.size wo (w1.alloc (.map #[] 0)) := below_next ((Below.refl _ _).alloc (Nat.le_refl _) _) hb1
  have ht2 : TM (w1.alloc (.map #[] 0)) w1.heap.size 0 (tabD (z.take 0)) := World.ownsMap_made _ _ _ _
  have hs2 : SM (w1.alloc (.map #[] 0)) wo.heap.size 8 symD := World.ownsMap.alloc hs1 _
  have hv2 := hv1.later ((Below.refl w1.heap.size w1).alloc (Nat.le_refl _) (.map #[] 0))
  have hlt1 : wo.heap.size < w1.heap.size := World.ownsMap.lt hs1
  clear hs1 hv1 hb1
  go_wp2_with fail
  go_loopg [19] n (fun k i wr => ∃ j : Nat, k = n - j ∧ j ≤ n ∧ i = .int .i64 j ∧ Known (z.take j) ∧ TM wr w1.heap.size j (tabD (z.take j)) ∧ SM wr wo.heap.size 8 symD ∧ Strs wr A n z ∧ Below wo.heap.size wo wr)
  case atStart => exact ⟨0, rfl, Nat.zero_le _, rfl, (fun s hs => by simp at hs), ht2, hs2, hv2, hb2⟩
  case round =>
    obtain ⟨j, hk, hj, rfl, hkn, ht, hs, hv, hb⟩ := hrel
    have KK := Lib.hid hk; clear hk
    have HKN := Lib.hid hkn; clear hkn
    by_cases hlt : j < n
    · rcases hv.split with g0 | ⟨b2, off2, rfl, hc2⟩
      · exfalso; omega
      · have hcj := hc2.out j hlt
        have hsj := HV.out.size j
        have hsn := Lib.hid (tabD_snoc z j (by rw [HL.out]; exact hlt))
        have hks := Lib.hid (known_snoc (z := z) (j := j) (by rw [HL.out]; exact hlt) HKN.out)
        have hnk := Lib.hid (not_known (z := z) (j := j) (by rw [HL.out]; exact hlt))
        generalize z.getD j ByteArray.empty = sj at hcj hsj hsn hks hnk
        have HK := Lib.hid (keyS sj hsj)
        by_cases hc : code sj = 0
        · have Q2 := Lib.hid (sym_unknown hc)
          have HE := Lib.hid (errorf_any F sj)
          have HC := Lib.hid hc; clear hc
          go_wp2_with (at_lookup; refine wpList_lookup_own_ok_int _ rfl _ _ 40 rfl 9 31 .i64 strK Tryf.underlying40 Tryf.underlying31 (zeroT _) wo.heap.size 8 symD rfl hs _ _ rfl HK.out ?_; intro cc hat hwc; rw [Q2.out]; clear hat)
          refine (HE.out _ _ (by exact (by rw [hb.tape]; exact HFt.out : F.answers wr.tape)) (by exact (cell_new' _ _ _ _ 0 (by simp)).trans rfl) (by exact heap_new' _ _ _ (by simp))).mono ?_
          rintro e w5 ⟨q, rfl, hb5⟩
          go_wp2_with fail
          go_ret2
          exact ⟨below_next hb5 (hb.alloc (hb.size) _), .inr ⟨hnk.out HC.out, q, rfl⟩⟩
        · have Q := Lib.hid (sym_known hc)
          have hwf := code_wf sj
          have HW := Lib.hid hwf
          have HKS := Lib.hid (hks.out hc)
          have HT := Lib.hid (keyT hwf)
          clear hc hks hnk
          generalize code sj = cj at Q hwf HW HT hsn
          clear hwf
          unfold TM at ht
          go_wp2_with (first
            | (at_lookup; refine wpList_lookup_own_ok_int _ rfl _ _ 40 rfl 9 31 .i64 strK Tryf.underlying40 Tryf.underlying31 (zeroT _) wo.heap.size 8 symD rfl hs _ _ rfl HK.out ?_; intro cc hat hwc; obtain rfl : cj = cc := el_inj Q.out.1 hat; rw [Q.out.2]; clear hat hwc)
            | (at_mapUpdate; refine wpList_mapUpdate_in _ rfl _ _ _ 23 rfl 31 4 tokK Tryf.underlying23 _ w1.heap.size j _ rfl ht (by unfold maxLen; omega) _ _ _ rfl rfl HT.out tt [] (plainElem_bool Tryf.underlying4 true) ?_; intro w3 hown3 hturn3))
          have hb3 := turned_below hturn3 (Nat.le_of_lt hlt1) hb hb.size
          have hs3 : SM w3 wo.heap.size 8 symD := World.ownsMap.kept hs hturn3.grown (by intro e; injection e with e; omega)
          have hv3 := hv.keep hturn3
          have ht3 : TM w3 w1.heap.size (j + 1) (tabD (z.take (j + 1))) := by rw [← hsn.out]; exact hown3
          go_roundg (n - (j + 1))
          case measure => rw [KK.out]; omega
          case rel => exact ⟨j + 1, rfl, by omega, by go_num, HKS.out, ht3, hs3, hv3, hb3⟩
    · obtain rfl : j = n := by omega
      have hdl : decide (j < j) = false := by simp
      go_wp2_with fail
      go_ret2
      refine ⟨hb, .inl ⟨?_, _, rfl, Nat.le_of_lt hlt1, ?_⟩⟩
      · have := HKN.out
        rwa [List.take_of_length_le (by rw [HL.out]; omega)] at this
      · rwa [List.take_of_length_le (by rw [HL.out]; omega)] at ht
end Go.Proofs.YtidennjnaihfbaaFmt
