/-
  The walk of FnValidatePushAcceptsExactlyKnownStates. Conditions: F answers the tape.
-/
import Derived.Test.YtlahcemjknffnaaFmtF3
namespace Go.Proofs.YtlahcemjknffnaaFmt
open Go.RowKit Go.Extern.Stop Go.Stop Go.Extern
set_option linter.unusedSimpArgs false
set_option linter.unusedVariables false
namespace fnValidatePushAcceptsExactlyKnownStates
open fnValidatePush
theorem ks_below {w w' : World} {b n : Nat} {S : ByteArray → Bool} (h : KS w b n S) (hb : Below w.heap.size w w') : KS w' b n S := by
  obtain ⟨D, h1, h2⟩ := h
  exact ⟨D, h1.kept (grown_of_below hb none) (by simp), h2⟩
theorem ks_lt {w : World} {b n : Nat} {S : ByteArray → Bool} (h : KS w b n S) : b < w.heap.size := by
  obtain ⟨D, h1, h2⟩ := h
  exact h1.lt
theorem Strs.keep {w w' : World} {A : Option Addr} {n : Nat} {z : List ByteArray} {b m : Nat} {D : DataW Unit} (h : Strs w A n z) (ht : w.mapTurned w' b) (hm : w.ownsMap Tryf.prog 9 R0 b m D) : Strs w' A n z := by
  have hlt : w.heap.size = w'.heap.size := by obtain ⟨es, clock, es', clock', hb, rfl⟩ := ht; simp [ChangeMaps.setBlock]
  have hg := ht.grown
  obtain ⟨es, clock, es', clock', hb, -⟩ := ht
  obtain ⟨h1, h2, h3, h4⟩ := h
  refine ⟨h1, h2, h3, ?_⟩
  rcases h4 with h4 | ⟨b2, off, e, hl2, hc⟩
  · exact .inl h4
  · rcases Nat.eq_zero_or_pos n with h0 | h0
    · exact .inl ⟨h0, List.eq_nil_of_length_eq_zero (by omega)⟩
    · have hne : b2 ≠ b := by
        rintro rfl
        have := hc 0 h0
        simp [World.cell?, hb] at this
      have he := hg.block b2 hl2 (fun e => hne (by injection e))
      exact .inr ⟨b2, off, e, by omega, fun i hi => by rw [← hc i hi]; unfold World.cell?; simp only [he]⟩
set_option maxHeartbeats 2000000 in
set_option maxRecDepth 100000 in
theorem walk (F : Interp) (A1 : Option Addr) (n1 c1 : Nat) (z1 : List ByteArray) (t : ByteArray) (w : World) (hF : F.answers w.tape) (hv : Strs w A1 n1 z1) (ht : t.size ≤ maxLen) :
    Calls Tryf.prog 3 #[.slice A1 n1 c1, .string t] w fun e w' => e = .returned (.bool true) ∧ Below w.heap.size w w' := by
  have HV := Lib.hid hv
  have HZ := Lib.hid (zz A1 n1 c1 z1 t w hv ht)
  have hmm := fun W => makeMap_none (P := Tryf.prog) 26 9 27 Tryf.underlying26 W
  have HT := Lib.hid ht
  have HC := Lib.hid (copy A1 n1 c1 z1 w hv)
  have HFt := Lib.hid hF
  rcases hv.split with h0 | ⟨b, off, rfl, hc⟩
  all_goals
    clear hv hF ht
    go_enter Tryf.func3, Tryf.ntmps3
    go_wp2_with fail
    refine HZ.out.mono ?_
    rintro e w' ⟨bz, rfl, rfl⟩
    go_wp2_with fail
    all_goals try (go_ret; exact ⟨rfl, Below.refl _ _⟩)
    go_loopg [5, 7, 27] n1 (fun k z s i wr => ∃ (j : Nat) (m : Int), k = n1 - j ∧ j ≤ n1 ∧ z = .int .i64 m ∧ i = .int .i64 j ∧ wr = w)
    case atStart => exact ⟨0, _, rfl, Nat.zero_le _, rfl, rfl, rfl⟩
    case round =>
      obtain ⟨j, m, hk, hj, rfl, rfl, rfl⟩ := hrel
      have KK := Lib.hid hk; clear hk
      by_cases hlt : j < n1
      · first
          | (exfalso; omega)
          | (have hcj := hc.out j hlt
             have hsj := HV.out.size j
             generalize z1.getD j ByteArray.empty = sj at hcj hsj
             go_wp2_with fail
             go_roundg (n1 - (j + 1))
             case measure => rw [KK.out]; omega
             case rel => exact ⟨j + 1, _, rfl, by omega, rfl, by go_num, rfl⟩)
      · have hdl : decide (j < n1) = false := by simp; omega
        clear KK
        have hn4 : n1 ≤ 4096 := by omega
        go_wp2_with fail
        all_goals try (go_ret; exact ⟨rfl, Below.refl _ _⟩)
        refine (HC.out (by omega)).mono ?_
        rintro e w1 ⟨A', c', rfl, hv1, hb1⟩
        obtain ⟨wo, rfl⟩ : ∃ x, x = wr := ⟨_, rfl⟩
        have HF1 := Lib.hid (show F.answers w1.tape from by rw [hb1.tape]; exact HFt.out)
        have HL1 := Lib.hid hv1.1
        have hm0 : KS (w1.alloc (.map #[] 0)) w1.heap.size 0 (fun x => memB (z1.take 0) x) := by exact (KS.made w1).congr (fun x => rfl)
        have hv0 : Strs (w1.alloc (.map #[] 0)) A' n1 z1 := hv1.later ((Below.refl _ _).alloc (Nat.le_refl _) _)
        have hb0 : Below wo.heap.size wo (w1.alloc (.map #[] 0)) := below_next ((Below.refl _ _).alloc (Nat.le_refl _) _) hb1
        have hle : wo.heap.size ≤ w1.heap.size := hb1.size
        go_wp2_with fail
        go_loopg [10, 43] n1 (fun k s i wr => ∃ (j : Nat), k = n1 - j ∧ j ≤ n1 ∧ i = .int .i64 j ∧ KS wr w1.heap.size j (fun x => memB (z1.take j) x) ∧ Strs wr A' n1 z1 ∧ Below wo.heap.size wo wr)
        case atStart => exact ⟨0, rfl, Nat.zero_le _, rfl, hm0, hv0, hb0⟩
        case round =>
          obtain ⟨j, hk, hj, rfl, hm, hv2, hb2⟩ := hrel
          have KK := Lib.hid hk; clear hk
          by_cases hlt : j < n1
          · rcases hv2.split with g0 | ⟨b2, off2, rfl, hc2⟩
            · exfalso; omega
            · have hcj := hc2.out j hlt
              have hsj := HV.out.size j
              have hsn := Lib.hid (fun x => memB_snoc z1 j (by rw [HL1.out]; exact hlt) x)
              generalize z1.getD j ByteArray.empty = sj at hcj hsj hsn
              obtain ⟨D, hown, hD⟩ := hm
              have HD := Lib.hid hD; clear hD
              have HK := Lib.hid (keyS sj hsj)
              go_wp2_with (at_mapUpdate; refine wpList_mapUpdate_in _ rfl _ _ _ 26 rfl 9 27 strK Tryf.underlying26 R0 w1.heap.size j D rfl hown (by unfold maxLen; omega) _ _ _ rfl rfl HK.out .nil [] rfl ?_; intro w3 hown3 hturn3)
              have hb3 := turned_below hturn3 hle hb2 hb2.size
              have hgr : Strs w3 (some ⟨b2, off2, none⟩) n1 z1 := Strs.keep hv2 hturn3 hown
              go_roundg (n1 - (j + 1))
              case measure => rw [KK.out]; omega
              case rel => exact ⟨j + 1, rfl, by omega, by go_num, (KS.put hown HD.out hown3).congr hsn.out, hgr, hb3⟩
          · obtain rfl : j = n1 := by omega
            have hdl2 : decide (j < j) = false := by simp
            clear KK
            have hm' := hm.congr (S' := fun x => memB z1 x) (fun x => by rw [List.take_of_length_le (by rw [HL1.out]; omega)])
            obtain ⟨D, hown, hD⟩ := hm'
            have HZV := Lib.hid (zv_any F t w1.heap.size j D wr (by rw [hb2.tape]; exact HFt.out) hown HT.out)
            rw [hD t] at HZV
            go_wp2_with fail
            refine HZV.out.mono ?_
            rintro e w3 ⟨v, rfl, hv3, hb3⟩
            have hv3' := hv2.later hb3
            have hbw3 := below_next hb3 hb2
            have HIN : Hid (∀ W, Strs W A' j z1 → Calls Tryf.prog 8 #[.slice A' j c', .string t] W fun e w' => e = .returned (.bool (memB z1 t)) ∧ W = w') := Lib.hid (fun W h => in_any A' j c' z1 t W h (by omega))
            have HN : Hid (∀ W, Below wo.heap.size wo W → Calls Tryf.prog 7 #[.string t, .map none] W fun e w' => ∃ v, e = .returned v ∧ ErrIff false v ∧ Below W.heap.size W w') := Lib.hid (fun W h => zv_nil F t W (by rw [h.tape]; exact HFt.out) HT.out)
            clear hm hown hD HZV hb2 hv2 hb3
            generalize memB z1 t = ok at hv3 HIN
            rcases hv3 with ⟨rfl, rfl⟩ | ⟨rfl, p, rfl⟩
            all_goals
              go_wp2_with fail
              go_region_held3 (fun W => Strs W A' j z1 ∧ Below wo.heap.size wo W)
                (first | assumption | exact ⟨hv3', hbw3.drew⟩)
                (first | (go_at_call 8; refine (HIN.out _ (by go_split_ands; assumption)).mono ?_; rintro e W ⟨rfl, rfl⟩))
              go_wp2_with fail
              refine (HN.out _ hbw3.drew).mono ?_
              rintro e w9 ⟨v, rfl, hv9, hb9⟩
              rcases hv9 with ⟨h, -⟩ | ⟨-, p9, rfl⟩
              · cases h
              · go_wp2_with fail
                go_ret
                exact ⟨rfl, below_next hb9 hbw3.drew⟩
end fnValidatePushAcceptsExactlyKnownStates
end Go.Proofs.YtlahcemjknffnaaFmt
