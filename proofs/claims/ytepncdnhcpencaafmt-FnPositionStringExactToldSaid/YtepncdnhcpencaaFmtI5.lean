/-
  b3itoa gives the decimal numeral. Conditions: the integer fits int64.
-/
import Derived.Test.YtepncdnhcpencaaFmtI4
import Derived.Lib.ItoaMem
import Derived.Lib.ItoaLen
namespace Go.Proofs.YtepncdnhcpencaaFmt
open Go.RowKit Go.Kit Go.Extern.Stop Go.Stop Go.Extern
set_option linter.unusedSimpArgs false
set_option linter.unusedVariables false
namespace fnPositionStringExact
open fnErrorfPercentS (ba_ext ec pc)
open fnErrorfEscapedFormatRoundTrip (bytesV)
def digB (u : Nat) : UInt8 := UInt8.ofNat (48 + u % 10)
theorem digB_nat (u : Nat) : (digB u).toNat = 48 + u % 10 := by
  unfold digB
  rw [UInt8.toNat_ofNat']
  omega
theorem dec_small {u : Nat} (h : u < 10) : Lib.decDigits u = [digB u] := by
  rw [Lib.decDigits, dif_pos h]; unfold digB; rw [Nat.mod_eq_of_lt h]
theorem dec_big {u : Nat} (h : ¬ u < 10) : Lib.decDigits u = Lib.decDigits (u / 10) ++ [digB u] := by
  rw [Lib.decDigits, dif_neg h]; rfl
def zero24 : Array Value := Array.replicate 24 (.int .u8 0)
theorem zero24_run (w : World) : (zeroValue 36).run Tryf.prog w = .ok (.agg zero24) w := by kernel_rfl
/-- The bytes L lie in the array's end. -/
structure Tail (w : World) (b i : Nat) (L : List UInt8) (cs : Array Value) : Prop where
  blk : Blk w b 36 cs
  size : cs.size = 24
  len : i + L.length = 24
  at' : ∀ j (h : j < L.length), cs[i + j]? = some (.int .u8 (L[j].toNat : Int))
theorem Tail.push {w : World} {b i : Nat} {L : List UInt8} {cs : Array Value} (h : Tail w b (i + 1) L cs) (x : UInt8) : Tail (w.setCell ⟨b, i, none⟩ (.int .u8 (x.toNat : Int))) b i (x :: L) (cs.setIfInBounds i (.int .u8 (x.toNat : Int))) := by
  have hl := h.len
  have hs := h.size
  refine ⟨h.blk.set i _, by simp [hs], by simp; omega, fun j hj => ?_⟩
  rw [Array.getElem?_setIfInBounds]
  cases j with
  | zero => rw [if_pos (by omega), if_pos (by omega)]; rfl
  | succ j =>
    rw [if_neg (by omega)]
    have := h.at' j (by simpa using hj)
    rw [show i + (j + 1) = i + 1 + j by omega, this]
    rfl
theorem slice24 (b I : Nat) (h : I < 24) (W : World) : (Instr.sliceAt 36 (.pointer (some ⟨b, 0, none⟩)) (some (.int .i64 (I : Int))) none none).run Tryf.prog W = .ok (.slice (some ⟨b, I, none⟩) (24 - I) (24 - I)) W := by
  have hal : Tryf.prog.arrayLen 36 = 24 := by kernel_rfl
  have e := run_sliceAt_array_l (P := Tryf.prog) W 36 ⟨b, 0, none⟩ (by kernel_rfl) .i64 (I : Int) (by omega) (by rw [hal]; omega)
  rw [e, show (sizeOf (Tryf.prog.elem 36)).run Tryf.prog W = .ok 1 W from by kernel_rfl, hal]
  simp only [Result.andThen, slicedAt, Int.toNat_natCast, Nat.mul_one]
  rw [if_neg (by omega)]
  have ea : (⟨b, 0, none⟩ : Addr).add I = ⟨b, I, none⟩ := by unfold Addr.add; split <;> simp_all
  rw [ea]
theorem Tail.conv {w : World} {b i : Nat} {L : List UInt8} {cs : Array Value} (h : Tail w b i L cs) : (convert 37 9 (.slice (some ⟨b, i, none⟩) (24 - i) (24 - i))).run Tryf.prog w = .ok (.string ⟨L.toArray⟩) w := by
  have hl := h.len
  have hcv := run_convert_bytes_back (P := Tryf.prog) w 37 9 5 ⟨b, i, none⟩ (24 - i) L Tryf.underlying37 Tryf.underlying5 Tryf.underlying9 (fun j hj => by
    have e : (⟨b, i, none⟩ : Addr).add j = ⟨b, i + j, none⟩ := by unfold Addr.add; split <;> simp_all
    rw [e, h.blk.cell, h.at' j hj])
  rwa [show L.length = 24 - i by omega] at hcv
set_option maxHeartbeats 2000000 in
set_option maxRecDepth 100000 in
theorem itoa_any (x : Int) (w : World) (hx : (Lit.int .i64 x).wf = true) : Calls Tryf.prog 7 #[.int .i64 x] w fun e w' => e = .returned (.string ⟨(Lib.itoa x).toArray⟩) ∧ Below w.heap.size w w' := by
  have hz := zero24_run
  have hwx : -9223372036854775808 ≤ x ∧ x ≤ 9223372036854775807 := by
    simp [Lit.wf, IntKind.min, IntKind.max, IntKind.signed, IntKind.bits] at hx
    omega
  have HX := Lib.hid hx
  clear hx
  generalize hZ : zero24 = Z at hz
  have hzs : Z.size = 24 := by rw [← hZ]; rfl
  have ht0 : Tail (w.alloc (.cells Z 36)) w.heap.size 24 [] Z := ⟨Blk.new _ _ _, hzs, rfl, fun j h => absurd h (Nat.not_lt_zero _)⟩
  have hb0 : Below w.heap.size w (w.alloc (.cells Z 36)) := (Below.refl _ _).alloc (Nat.le_refl _) _
  clear hZ hzs
  by_cases hneg : x < 0
  · obtain ⟨U0, rfl⟩ : ∃ U : Nat, x = -(U : Int) := ⟨(-x).toNat, by omega⟩
    have hU1 : 1 ≤ U0 := by omega
    have hn0 := Lib.nDigits_le20 U0 (by omega)
    go_enter Tryf.func7, Tryf.ntmps7
    go_wp2_with fail
    go_loopg [5, 7] 24 (fun k u i wr => ∃ (U I : Nat) (L : List UInt8) (cs : Array Value), k = I ∧ u = .int .u64 (U : Int) ∧ i = .int .i64 (I : Int) ∧ U < 18446744073709551616 ∧ Lib.nDigits U + 1 ≤ I ∧ Tail wr w.heap.size I L cs ∧ Hid (Lib.decDigits U0 = Lib.decDigits U ++ L) ∧ Below w.heap.size w wr)
    case atStart => exact ⟨U0, 24, [], _, rfl, by go_num, rfl, by omega, by omega, ht0, Lib.hid (by simp), hb0⟩
    case round =>
      obtain ⟨U, I, L, cs, hk, rfl, rfl, hU, hI, hT, HD, hbel⟩ := hrel
      have KK := Lib.hid hk; clear hk ht0 hb0
      have hnp := Lib.nDigits_pos U
      obtain ⟨I, rfl⟩ : ∃ i, I = i + 1 := ⟨I - 1, by omega⟩
      have hlen := hT.len
      have hsz := hT.size
      have hco : wr.cell? ⟨w.heap.size, I, none⟩ = some (cs.getD I undef) := by
        rw [hT.blk.cell I, Array.getElem?_eq_getElem (by omega)]
        simp [Array.getD, show I < cs.size by omega]
      have hfz := hT.blk.frozen I
      have hpush := hT.push (digB U)
      rw [digB_nat] at hpush
      generalize cs.getD I undef = old at hco
      have hbp : Below w.heap.size w (wr.setCell ⟨w.heap.size, I, none⟩ (.int .u8 ((48 + U % 10 : Nat) : Int))) := hbel.setCell (p := ⟨w.heap.size, I, none⟩) (Nat.le_refl _) _
      by_cases hs : U < 10
      · obtain ⟨I, rfl⟩ : ∃ i, I = i + 1 := ⟨I - 1, by omega⟩
        have hsl := slice24 w.heap.size I (by omega)
        have HR := Lib.hid (show Lib.itoa (-(U0 : Int)) = 45 :: digB U :: L from by rw [Lib.itoa_neg U0 hU1, HD.out, dec_small hs]; rfl)
        have hsz2 := hpush.size
        have hco2 := hpush.blk.cell I
        rw [Array.getElem?_eq_getElem (by omega)] at hco2
        have hfz2 := hpush.blk.frozen I
        have hpush2 := hpush.push 45
        have hcv := hpush2.conv
        have hbp2 : Below w.heap.size w ((wr.setCell ⟨w.heap.size, I + 1, none⟩ (.int .u8 ((48 + U % 10 : Nat) : Int))).setCell ⟨w.heap.size, I, none⟩ (.int .u8 45)) := hbp.setCell (p := ⟨w.heap.size, I, none⟩) (Nat.le_refl _) _
        rw [show ((45 : UInt8).toNat : Int) = 45 from rfl] at hcv
        push_cast at hcv hbp2 hco2 hfz2 hbp
        generalize hov : (cs.setIfInBounds (I + 1) (.int .u8 ((48 + U % 10 : Nat) : Int))) = cs2 at hpush
        clear hpush hpush2 hT HD
        go_wp2_with fail
        go_ret
        exact ⟨by rw [HR.out]; rfl, hbp2⟩
      · have HDN : Hid (Lib.decDigits U0 = Lib.decDigits (U / 10) ++ (digB U :: L)) := Lib.hid (by rw [HD.out, dec_big hs]; simp)
        have hnb := Lib.nDigits_big hs
        have hnq : ¬ ((U : Int) / 10 = 0) := by omega
        clear hT HD
        push_cast at hpush hbp
        go_wp2_with fail
        go_roundg I
        case measure => rw [KK.out]; omega
        case rel => exact ⟨U / 10, I, digB U :: L, _, rfl, by go_num, rfl, by omega, by omega, hpush, HDN, hbp⟩
  · obtain ⟨U0, rfl⟩ : ∃ U : Nat, x = (U : Int) := ⟨x.toNat, by omega⟩
    have hn0 := Lib.nDigits_le20 U0 (by omega)
    go_enter Tryf.func7, Tryf.ntmps7
    go_wp2_with fail
    go_loopg [5, 7] 24 (fun k u i wr => ∃ (U I : Nat) (L : List UInt8) (cs : Array Value), k = I ∧ u = .int .u64 (U : Int) ∧ i = .int .i64 (I : Int) ∧ U < 18446744073709551616 ∧ Lib.nDigits U + 1 ≤ I ∧ Tail wr w.heap.size I L cs ∧ Hid (Lib.decDigits U0 = Lib.decDigits U ++ L) ∧ Below w.heap.size w wr)
    case atStart => exact ⟨U0, 24, [], _, rfl, rfl, rfl, by omega, by omega, ht0, Lib.hid (by simp), hb0⟩
    case round =>
      obtain ⟨U, I, L, cs, hk, rfl, rfl, hU, hI, hT, HD, hbel⟩ := hrel
      have KK := Lib.hid hk; clear hk ht0 hb0
      have hnp := Lib.nDigits_pos U
      obtain ⟨I, rfl⟩ : ∃ i, I = i + 1 := ⟨I - 1, by omega⟩
      have hlen := hT.len
      have hsz := hT.size
      have hco : wr.cell? ⟨w.heap.size, I, none⟩ = some (cs.getD I undef) := by
        rw [hT.blk.cell I, Array.getElem?_eq_getElem (by omega)]
        simp [Array.getD, show I < cs.size by omega]
      have hfz := hT.blk.frozen I
      have hpush := hT.push (digB U)
      rw [digB_nat] at hpush
      generalize cs.getD I undef = old at hco
      have hbp : Below w.heap.size w (wr.setCell ⟨w.heap.size, I, none⟩ (.int .u8 ((48 + U % 10 : Nat) : Int))) := hbel.setCell (p := ⟨w.heap.size, I, none⟩) (Nat.le_refl _) _
      by_cases hs : U < 10
      · have hsl := slice24 w.heap.size I (by omega)
        have hcv := hpush.conv
        have HR := Lib.hid (show Lib.itoa (U0 : Int) = digB U :: L from by rw [Lib.itoa_nonneg, HD.out, dec_small hs]; rfl)
        push_cast at hcv hbp
        clear hpush hT HD
        go_wp2_with fail
        go_ret
        exact ⟨by rw [HR.out]; rfl, hbp⟩
      · have HDN : Hid (Lib.decDigits U0 = Lib.decDigits (U / 10) ++ (digB U :: L)) := Lib.hid (by rw [HD.out, dec_big hs]; simp)
        have hnb := Lib.nDigits_big hs
        have hnq : ¬ ((U : Int) / 10 = 0) := by omega
        clear hT HD
        push_cast at hpush hbp
        go_wp2_with fail
        go_roundg I
        case measure => rw [KK.out]; omega
        case rel => exact ⟨U / 10, I, digB U :: L, _, rfl, by go_num, rfl, by omega, by omega, hpush, HDN, hbp⟩
end fnPositionStringExact
end Go.Proofs.YtepncdnhcpencaaFmt
