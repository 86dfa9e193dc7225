/-
  The walk of FnValidatePushAcceptsExactlyKnownStates: what is called there. Conditions: as stated; F answers the tape.
-/
import Derived.Test.YtlahcemjknffnaaFmtCl
import Derived.Test.YtlahcemjknffnaaFmtF1
import Derived.Maps.OwnSet
import Derived.StringKeys
namespace Go.Proofs.YtlahcemjknffnaaFmt
open Go.RowKit Go.Extern.Stop Go.Stop Go.Extern
set_option linter.unusedSimpArgs false
set_option linter.unusedVariables false
namespace fnValidatePush
def kl (s : ByteArray) : Lit := .string s.data.toList
theorem kl_inj {s s' : ByteArray} (h : kl s = kl s') : s = s' := by
  unfold kl at h
  injection h with h
  cases s; cases s'
  simp at h
  subst h
  rfl
def R0 : Value → Option (DataW Unit × List MemPlace) := fun _ => some (.nil, [])
theorem strK : Maps.Keyed Tryf.prog 9 := Maps.string_keyed Tryf.underlying9
theorem keyS (s : ByteArray) (h : s.size ≤ maxLen) : keyOf Tryf.prog 9 (.string s) = some (kl s) := WideMaps.keyOf_string_mk Tryf.underlying9 h
theorem zeroR (w : World) : (zeroValue 27).run Tryf.prog w = .ok (.slice none 0 0) w := by kernel_rfl
theorem makeMap_none {P : Program} (t k e : TypeId) (ht : P.underlying t = some (.map k e)) (w : World) : (Instr.makeMap t none).run P w = .ok (.map (some w.heap.size)) (w.alloc (.map #[] 0)) := by
  simp [Instr.makeMap, run_underlying ht]
/-- Are two strings equal; is a string in a list. -/
noncomputable def eqB (x y : ByteArray) : Bool := @decide (x = y) (Classical.propDecidable _)
noncomputable def memB (z : List ByteArray) (t : ByteArray) : Bool := z.any (fun x => eqB t x)
theorem eqB_self (x : ByteArray) : eqB x x = true := by simp [eqB]
theorem eqB_ne {x y : ByteArray} (h : x ≠ y) : eqB x y = false := by simp [eqB, h]
theorem memB_of {z : List ByteArray} {t : ByteArray} (h : t ∈ z) : memB z t = true := List.any_eq_true.2 ⟨t, h, eqB_self t⟩
theorem toList_ne2 {a b : ByteArray} (h : a ≠ b) : (a.toList == b.toList) = false := by
  rw [ByteArray.toList_eq, ByteArray.toList_eq]
  have : ¬ a.data.toList = b.data.toList := fun e => h (kl_inj (congrArg Lit.string e))
  simpa using this
theorem toList_ne3 {a b : ByteArray} (h : a ≠ b) : ¬ a.toList = b.toList := by
  rw [ByteArray.toList_eq, ByteArray.toList_eq]
  exact fun e => h (kl_inj (congrArg Lit.string e))
/-- Block b is a map whose keys are those that S takes. -/
def KS (w : World) (b n : Nat) (S : ByteArray → Bool) : Prop := ∃ D : DataW Unit, w.ownsMap Tryf.prog 9 R0 b n D ∧ ∀ s : ByteArray, Maps.has D (kl s) = S s
theorem KS.made (w : World) : KS (w.alloc (.map #[] 0)) w.heap.size 0 (fun _ => false) := ⟨.map [], World.ownsMap_made _ _ _ _, fun s => rfl⟩
theorem KS.put {w w' : World} {b n : Nat} {S : ByteArray → Bool} {D : DataW Unit} {s : ByteArray} (hw : w.ownsMap Tryf.prog 9 R0 b n D) (h : ∀ s : ByteArray, Maps.has D (kl s) = S s) (h' : w'.ownsMap Tryf.prog 9 R0 b (n + 1) (D.put (kl s) .nil)) :
    KS w' b (n + 1) (fun x => S x || eqB x s) := by
  refine ⟨_, h', fun x => ?_⟩
  by_cases hx : x = s
  · subst hx
    rw [Maps.has_put_same hw.isMap (show WideAt.IsKeyLit (kl x) from trivial)]
    show true = (S x || eqB x x)
    rw [eqB_self, Bool.or_true]
  · rw [Maps.has_put_other (fun e => hx (kl_inj e)), h x]
    show S x = (S x || eqB x s)
    rw [eqB_ne hx, Bool.or_false]
theorem KS.congr {w : World} {b n : Nat} {S S' : ByteArray → Bool} (h : KS w b n S) (e : ∀ x, S x = S' x) : KS w b n S' := by
  obtain ⟨D, h1, h2⟩ := h
  exact ⟨D, h1, fun s => (h2 s).trans (e s)⟩
theorem turned_below {w w' : World} {b B : Nat} (h : w.mapTurned w' b) (hb : B ≤ b) {w0 : World} (h0 : Below B w0 w) (hB : B ≤ w.heap.size) : Below B w0 w' := h0.grown h.grown hB (fun k e => by injection e with e; omega)
theorem memB_snoc (z : List ByteArray) (j : Nat) (h : j < z.length) (x : ByteArray) : (memB (z.take j) x || eqB x (z.getD j ByteArray.empty)) = memB (z.take (j + 1)) x := by
  unfold memB
  rw [PS.take_snoc z j h, List.any_append]
  simp
set_option maxRecDepth 100000 in
theorem zz (A1 : Option Addr) (n1 c1 : Nat) (z1 : List ByteArray) (t : ByteArray) (w : World) (hv : Strs w A1 n1 z1) (ht : t.size ≤ maxLen) : Calls Tryf.prog 5 #[.slice A1 n1 c1, .string t] w (BoolAny w) := by
  have h1 := hv.2.1
  unfold maxLen at h1 ht
  rcases hv.split with h0 | ⟨b, off, rfl, hc⟩
  all_goals
    go_enter Tryf.func5, Tryf.ntmps5
    go_wp2_with fail
    all_goals try (go_ret; exact ⟨_, rfl, rfl⟩)
    go_loopg [4, 5, 6] n1 (fun k u z i wr => ∃ j m : Nat, k = n1 - j ∧ j ≤ n1 ∧ m ≤ 1048576 ∧ z = .int .i64 m ∧ i = .int .i64 j ∧ wr = w ∧ u = .bool false)
    case atStart => exact ⟨0, n1, rfl, Nat.zero_le _, by omega, rfl, rfl, rfl, rfl⟩
    case round =>
      obtain ⟨j, m, hk, hj, hm, rfl, rfl, rfl, rfl⟩ := hrel
      have KK := Lib.hid hk; clear hk
      by_cases hlt : j < n1
      · first
          | (exfalso; omega)
          | (have hcj := hc.out j hlt
             have hsj := hv.size j
             generalize z1.getD j ByteArray.empty = sj at hcj hsj
             go_wp2_with fail
             all_goals first
               | (go_ret; exact ⟨_, rfl, rfl⟩)
               | (go_roundg (n1 - (j + 1))
                  case measure => rw [KK.out]; omega
                  case rel => exact ⟨j + 1, m + sj.size, rfl, by omega, by omega, by go_num, by go_num, rfl, rfl⟩))
      · go_wp2_with fail
        all_goals (go_ret; exact ⟨_, rfl, rfl⟩)
set_option maxHeartbeats 1000000 in
set_option maxRecDepth 100000 in
theorem copy (A : Option Addr) (n c : Nat) (z : List ByteArray) (w : World) (hv : Strs w A n z) (h1 : n ≤ 65536) : Calls Tryf.prog 6 #[.slice A n c] w (ClonePost w n z) := by
  obtain ⟨i0, hi, hz0, hz1, hz2⟩ := info_parts strInfo
  have HL := Lib.hid hv.1
  have HV := Lib.hid hv
  cases A with
  | none =>
    obtain rfl : n = 0 := by
      rcases hv.2.2.2 with h | ⟨b, off, h, _⟩
      · exact h.1
      · cases h
    have hz : z = [] := List.eq_nil_of_length_eq_zero hv.1
    clear hv
    have hq := fun W => Lib.run_eql_slice_nil (P := Tryf.prog) W 22 9 none 0 c 0 0 Tryf.underlying22
    simp only [Option.isNone_none] at hq
    go_enter Tryf.func6, Tryf.ntmps6
    go_wp2_with fail
    go_ret
    exact ⟨none, 0, rfl, ⟨HL.out, Nat.zero_le _, by rw [hz]; simp, .inl ⟨rfl, hz⟩⟩, Below.refl _ _⟩
  | some a =>
    have hq := fun W => Lib.run_eql_slice_nil (P := Tryf.prog) W 22 9 (some a) n c 0 0 Tryf.underlying22
    simp only [Option.isNone_some] at hq
    have hsp : n ≤ 0 ∨ ∃ b off, a = ⟨b, off, none⟩ ∧ Hid (∀ i, i < n → w.cell? ⟨b, off + i, none⟩ = some (.string (z.getD i ByteArray.empty))) := by
      rcases hv.split with h | ⟨b, off, h, hc⟩
      · exact .inl h
      · exact .inr ⟨b, off, by injection h, hc⟩
    clear hv
    rcases hsp with h0 | ⟨b0, o0, rfl, hc0⟩
    all_goals
      go_enter Tryf.func6, Tryf.ntmps6
      go_wp2_with (at_make; refine wpList_make_full _ rfl _ _ 22 rfl w.heap.size 9 i0 _ 1 Tryf.underlying22 hi hz0 hz1 _ _ _ _ n rfl rfl rfl rfl (by rw [hz2]; omega) (by unfold maxLen; omega) (Nat.le_refl _) ?_; intro w1 hown1 hg1)
      have e1 : (madeCells (Value.cells (Value.string ByteArray.empty)) (n * 1)).toList = cloneMid z 0 := by
        rw [Nat.mul_one]
        unfold cloneMid
        rw [HL.out]
        rw [List.take_zero, List.map_nil, List.nil_append, Nat.sub_zero]
        exact toList_madeCells_one (.string ByteArray.empty) n
      rw [e1] at hown1
      have hrow1 := Row.of_own hown1
      have hb1 : Below w.heap.size w w1 := (Below.refl _ _).grown hg1 (Nat.le_refl _) (fun _ h => by cases h)
      clear hown1 hg1 e1 hq
      go_loopg [4] n (fun k i wr => ∃ j : Nat, k = n - j ∧ j ≤ n ∧ i = .int .i64 j ∧ Row wr w.heap.size 9 (cloneMid z j) ∧ Below w.heap.size w wr)
      case atStart => exact ⟨0, rfl, Nat.zero_le _, rfl, hrow1, hb1⟩
      case round =>
        obtain ⟨j, hk, hj, rfl, hrow, hbel⟩ := hrel
        have KK := Lib.hid hk; clear hk
        by_cases hlt : j < n
        · first
            | (exfalso; omega)
            | (have hcj := (hbel.cell (p := ⟨b0, o0 + j, none⟩) (World.block_lt_of_cell? _ _ (hc0.out j hlt))).trans (hc0.out j hlt)
               obtain ⟨old, hold⟩ := cloneMid_at z j j (by rw [HL.out]; exact hlt)
               have hco := hrow.cell hold
               have fz := hrow.frozen j
               have hset := hrow.set j (.string (z.getD j ByteArray.empty))
               rw [cloneMid_set z j (by rw [HL.out]; exact hlt)] at hset
               generalize z.getD j ByteArray.empty = sj at hcj hset
               clear hold
               go_wp2_with fail
               go_roundg (n - (j + 1))
               case measure => rw [KK.out]; omega
               case rel => exact ⟨j + 1, rfl, by omega, by go_num, hset, hbel.setCell (p := ⟨w.heap.size, j, none⟩) (Nat.le_refl _) _⟩)
        · obtain rfl : n = j := by omega
          go_wp2_with fail
          go_ret
          refine ⟨some ⟨w.heap.size, 0, none⟩, n, rfl, ⟨HL.out, HV.out.2.1, HV.out.2.2.1, ?_⟩, hbel⟩
          rcases Nat.eq_zero_or_pos n with h | h
          · exact .inl ⟨h, List.eq_nil_of_length_eq_zero (by rw [HL.out]; exact h)⟩
          · refine .inr ⟨w.heap.size, 0, rfl, hrow.lt, fun i hi => ?_⟩
            rw [Nat.zero_add]
            refine hrow.cell ?_
            have := cloneMid_full z i (by rw [HL.out]; exact hi)
            rw [HL.out] at this
            exact this
set_option maxHeartbeats 1000000 in
set_option maxRecDepth 100000 in
theorem in_any (A : Option Addr) (n c : Nat) (z : List ByteArray) (t : ByteArray) (w : World) (hv : Strs w A n z) (h1 : n ≤ 65536) : Calls Tryf.prog 8 #[.slice A n c, .string t] w fun e w' => e = .returned (.bool (memB z t)) ∧ w = w' := by
  have HL := Lib.hid hv.1
  rcases hv.split with h0 | ⟨b, off, rfl, hc⟩
  all_goals
    go_enter Tryf.func8, Tryf.ntmps8
    go_wp2_with fail
    go_loopg [4, 9] n (fun k u i wr => ∃ j : Nat, k = n - j ∧ j ≤ n ∧ i = .int .i64 j ∧ wr = w ∧ u = .bool false ∧ Hid (memB (z.take j) t = false))
    case atStart => exact ⟨0, rfl, Nat.zero_le _, rfl, rfl, rfl, Lib.hid rfl⟩
    case round =>
      obtain ⟨j, hk, hj, rfl, rfl, rfl, hno⟩ := hrel
      have KK := Lib.hid hk; clear hk
      by_cases hlt : j < n
      · first
          | (exfalso; omega)
          | (have hcj := hc.out j hlt
             have hsn := Lib.hid (memB_snoc z j (by rw [HL.out]; exact hlt) t)
             have hmem : Hid (z.getD j ByteArray.empty ∈ z) := Lib.hid (by rw [List.getD_eq_getElem?_getD, List.getElem?_eq_getElem (by rw [HL.out]; exact hlt)]; exact List.getElem_mem _)
             generalize z.getD j ByteArray.empty = sj at hcj hsn hmem
             by_cases hst : sj = t
             · subst hst
               go_wp2_with fail
               go_ret
               exact ⟨by show _ = Ending.returned (.bool (memB z sj)); rw [memB_of hmem.out]; rfl, rfl⟩
             · have hse := toList_ne2 hst
               have HST := Lib.hid hst; clear hst
               go_wp2_with fail
               go_roundg (n - (j + 1))
               case measure => rw [KK.out]; omega
               case rel => exact ⟨j + 1, rfl, by omega, by go_num, rfl, rfl, Lib.hid (by rw [← hsn.out, hno.out, Bool.false_or]; exact eqB_ne (fun e => HST.out e.symm))⟩)
      · obtain rfl : j = n := by omega
        go_wp2_with fail
        go_ret
        exact ⟨by have e := hno.out; rw [List.take_of_length_le (by rw [HL.out]; omega)] at e; rw [e]; rfl, rfl⟩
end fnValidatePush
end Go.Proofs.YtlahcemjknffnaaFmt
