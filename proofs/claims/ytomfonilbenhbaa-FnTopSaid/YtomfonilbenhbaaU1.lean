/-
  zzItoa gives some short string. Conditions: the integer is not negative and fits int64.
-/
import Derived.Test.YtomfonilbenhbaaLexC
import Derived.Laws.IdiomStrings
import Derived.Lib.ItoaMem
import Derived.Lib.ItoaLen
namespace Go.Proofs.Ytomfonilbenhbaa
open Go.RowKit
set_option linter.unusedSimpArgs false
set_option linter.unusedVariables false
namespace Up
def digB (u : Nat) : UInt8 := UInt8.ofNat (48 + u % 10)
theorem digB_nat (u : Nat) : (digB u).toNat = 48 + u % 10 := by
  unfold digB
  rw [UInt8.toNat_ofNat']
  omega
def zero24 : Array Value := Array.replicate 24 (.int .u8 0)
theorem zero24_run (w : World) : (zeroValue 117).run Try.prog w = .ok (.agg zero24) w := by kernel_rfl
/-- The bytes L lie in the array's end. -/
structure Tail (w : World) (b i : Nat) (L : List UInt8) (cs : Array Value) : Prop where
  blk : Blk w b 117 cs
  size : cs.size = 24
  len : i + L.length = 24
  at' : ∀ j (h : j < L.length), cs[i + j]? = some (.int .u8 (L[j].toNat : Int))
theorem Tail.push {w : World} {b i : Nat} {L : List UInt8} {cs : Array Value} (h : Tail w b (i + 1) L cs) (x : UInt8) : Tail (w.setCell ⟨b, i, none⟩ (.int .u8 (x.toNat : Int))) b i (x :: L) (cs.setIfInBounds i (.int .u8 (x.toNat : Int))) := by
  have hl := h.len
  have hs := h.size
  refine ⟨h.blk.set i _, by simp [hs], by simp; omega, fun j hj => ?_⟩
  rw [Array.getElem?_setIfInBounds]
  cases j with
  | zero => rw [if_pos (by omega), if_pos (by omega)]; rfl
  | succ j =>
    rw [if_neg (by omega)]
    have := h.at' j (by simpa using hj)
    rw [show i + (j + 1) = i + 1 + j by omega, this]
    rfl
theorem slice24 (b I : Nat) (h : I < 24) (W : World) : (Instr.sliceAt 117 (.pointer (some ⟨b, 0, none⟩)) (some (.int .i64 (I : Int))) none none).run Try.prog W = .ok (.slice (some ⟨b, I, none⟩) (24 - I) (24 - I)) W := by
  have hal : Try.prog.arrayLen 117 = 24 := by kernel_rfl
  have e := run_sliceAt_array_l (P := Try.prog) W 117 ⟨b, 0, none⟩ (by kernel_rfl) .i64 (I : Int) (by omega) (by rw [hal]; omega)
  rw [e, show (sizeOf (Try.prog.elem 117)).run Try.prog W = .ok 1 W from by kernel_rfl, hal]
  simp only [Result.andThen, slicedAt, Int.toNat_natCast, Nat.mul_one]
  rw [if_neg (by omega)]
  have ea : (⟨b, 0, none⟩ : Addr).add I = ⟨b, I, none⟩ := by unfold Addr.add; split <;> simp_all
  rw [ea]
theorem Tail.conv {w : World} {b i : Nat} {L : List UInt8} {cs : Array Value} (h : Tail w b i L cs) : (convert 22 9 (.slice (some ⟨b, i, none⟩) (24 - i) (24 - i))).run Try.prog w = .ok (.string ⟨L.toArray⟩) w := by
  have hl := h.len
  have hcv := run_convert_bytes_back (P := Try.prog) w 22 9 5 ⟨b, i, none⟩ (24 - i) L Try.underlying22 Try.underlying5 Try.underlying9 (fun j hj => by
    have e : (⟨b, i, none⟩ : Addr).add j = ⟨b, i + j, none⟩ := by unfold Addr.add; split <;> simp_all
    rw [e, h.blk.cell, h.at' j hj])
  rwa [show L.length = 24 - i by omega] at hcv
set_option maxHeartbeats 2000000 in
set_option maxRecDepth 100000 in
theorem itoa_any (U0 : Nat) (w : World) (hx : U0 ≤ 9223372036854775807) : Calls Try.prog 60 #[.int .i64 (U0 : Int)] w fun e w' => ∃ s : ByteArray, e = .returned (.string s) ∧ s.size ≤ 24 ∧ Below w.heap.size w w' := by
  have hz := zero24_run
  generalize hZ : zero24 = Z at hz
  have hzs : Z.size = 24 := by rw [← hZ]; rfl
  have ht0 : Tail (w.alloc (.cells Z 117)) w.heap.size 24 [] Z := ⟨Blk.new _ _ _, hzs, rfl, fun j h => absurd h (Nat.not_lt_zero _)⟩
  have hb0 : Below w.heap.size w (w.alloc (.cells Z 117)) := (Below.refl _ _).alloc (Nat.le_refl _) _
  clear hZ hzs
  have hn0 := Lib.nDigits_le20 U0 (by omega)
  by_cases hu0 : U0 = 0
  · subst hu0
    have hsz := ht0.size
    have hco := ht0.blk.cell 23
    rw [Array.getElem?_eq_getElem (by omega)] at hco
    have hfz := ht0.blk.frozen 23
    have hpush := ht0.push 48
    have hsl := slice24 w.heap.size 23 (by omega)
    have hcv := hpush.conv
    rw [show ((48 : UInt8).toNat : Int) = 48 from rfl] at hcv
    have hbp := hb0.setCell (p := ⟨w.heap.size, 23, none⟩) (Nat.le_refl _) (.int .u8 48)
    rw [show ((48 : UInt8).toNat : Int) = 48 from rfl] at hpush
    have ht1 : Tail (w.alloc (.cells (Z.setIfInBounds 23 (.int .u8 48)) 117)) w.heap.size 23 [48] (Z.setIfInBounds 23 (.int .u8 48)) := ⟨Blk.new _ _ _, hpush.size, rfl, hpush.at'⟩
    have hb1 : Below w.heap.size w (w.alloc (.cells (Z.setIfInBounds 23 (.int .u8 48)) 117)) := (Below.refl _ _).alloc (Nat.le_refl _) _
    clear hcv hsl ht0 hpush hbp
    go_enter Try.func60, Try.ntmps60
    go_wp2_with fail
    go_loopg [5, 7] 23 (fun k u i wr => ∃ (U I : Nat) (L : List UInt8) (cs : Array Value), k = I ∧ u = .int .u64 (U : Int) ∧ i = .int .i64 (I : Int) ∧ U < 18446744073709551616 ∧ (U = 0 → I < 24) ∧ (1 ≤ U → Lib.nDigits U ≤ I) ∧ Tail wr w.heap.size I L cs ∧ Below w.heap.size w wr)
    case atStart => exact ⟨0, 23, [48], _, rfl, by go_num, rfl, by omega, by omega, by omega, ht1, hb1⟩
    case round =>
      obtain ⟨U, I, L, cs, hk, rfl, rfl, hU, hI0, hI, hT, hbel⟩ := hrel
      have KK := Lib.hid hk; clear hk
      have hlen := hT.len
      have hsz := hT.size
      by_cases hu : U = 0
      · subst hu
        have hi24 := hI0 rfl
        have hsl := slice24 w.heap.size I (by omega)
        have hcv := hT.conv
        have HS : Hid ((⟨L.toArray⟩ : ByteArray).size ≤ 24) := Lib.hid (by show L.toArray.size ≤ 24; simp; omega)
        clear hT hI0 hI
        go_wp2_with fail
        go_ret
        exact ⟨_, rfl, HS.out, hbel⟩
      · have hI2 := hI (by omega)
        have hnp := Lib.nDigits_pos U
        obtain ⟨I, rfl⟩ : ∃ i, I = i + 1 := ⟨I - 1, by omega⟩
        have hco : wr.cell? ⟨w.heap.size, I, none⟩ = some (cs.getD I undef) := by
          rw [hT.blk.cell I, Array.getElem?_eq_getElem (by omega)]
          simp [Array.getD, show I < cs.size by omega]
        have hfz := hT.blk.frozen I
        have hpush := hT.push (digB U)
        rw [digB_nat] at hpush
        generalize cs.getD I undef = old at hco
        have hbp : Below w.heap.size w (wr.setCell ⟨w.heap.size, I, none⟩ (.int .u8 ((48 + U % 10 : Nat) : Int))) := hbel.setCell (p := ⟨w.heap.size, I, none⟩) (Nat.le_refl _) _
        push_cast at hpush hbp
        have hup : (0 : Int) < (U : Int) := by omega
        have hnx : 1 ≤ U / 10 → Lib.nDigits (U / 10) ≤ I := fun h => by
          have := Lib.nDigits_big (show ¬ U < 10 by omega)
          omega
        have HNX := Lib.hid hnx
        clear hT hI0 hI hnx
        go_wp2_with fail
        go_roundg I
        case measure => rw [KK.out]; omega
        case rel => exact ⟨U / 10, I, digB U :: L, _, rfl, by go_num, rfl, by omega, by omega, HNX.out, hpush, hbp⟩
  · go_enter Try.func60, Try.ntmps60
    go_wp2_with fail
    go_loopg [5, 7] 24 (fun k u i wr => ∃ (U I : Nat) (L : List UInt8) (cs : Array Value), k = I ∧ u = .int .u64 (U : Int) ∧ i = .int .i64 (I : Int) ∧ U < 18446744073709551616 ∧ (U = 0 → I < 24) ∧ (1 ≤ U → Lib.nDigits U ≤ I) ∧ Tail wr w.heap.size I L cs ∧ Below w.heap.size w wr)
    case atStart => exact ⟨U0, 24, [], _, rfl, rfl, rfl, by omega, by omega, (fun _ => by omega), ht0, hb0⟩
    case round =>
      obtain ⟨U, I, L, cs, hk, rfl, rfl, hU, hI0, hI, hT, hbel⟩ := hrel
      have KK := Lib.hid hk; clear hk
      have hlen := hT.len
      have hsz := hT.size
      by_cases hu : U = 0
      · subst hu
        have hi24 := hI0 rfl
        have hsl := slice24 w.heap.size I (by omega)
        have hcv := hT.conv
        have HS : Hid ((⟨L.toArray⟩ : ByteArray).size ≤ 24) := Lib.hid (by show L.toArray.size ≤ 24; simp; omega)
        clear hT hI0 hI
        go_wp2_with fail
        go_ret
        exact ⟨_, rfl, HS.out, hbel⟩
      · have hI2 := hI (by omega)
        have hnp := Lib.nDigits_pos U
        obtain ⟨I, rfl⟩ : ∃ i, I = i + 1 := ⟨I - 1, by omega⟩
        have hco : wr.cell? ⟨w.heap.size, I, none⟩ = some (cs.getD I undef) := by
          rw [hT.blk.cell I, Array.getElem?_eq_getElem (by omega)]
          simp [Array.getD, show I < cs.size by omega]
        have hfz := hT.blk.frozen I
        have hpush := hT.push (digB U)
        rw [digB_nat] at hpush
        generalize cs.getD I undef = old at hco
        have hbp : Below w.heap.size w (wr.setCell ⟨w.heap.size, I, none⟩ (.int .u8 ((48 + U % 10 : Nat) : Int))) := hbel.setCell (p := ⟨w.heap.size, I, none⟩) (Nat.le_refl _) _
        push_cast at hpush hbp
        have hup : (0 : Int) < (U : Int) := by omega
        have hnx : 1 ≤ U / 10 → Lib.nDigits (U / 10) ≤ I := fun h => by
          have := Lib.nDigits_big (show ¬ U < 10 by omega)
          omega
        have HNX := Lib.hid hnx
        clear hT hI0 hI hnx
        go_wp2_with fail
        go_roundg I
        case measure => rw [KK.out]; omega
        case rel => exact ⟨U / 10, I, digB U :: L, _, rfl, by go_num, rfl, by omega, by omega, HNX.out, hpush, hbp⟩
end Up
end Go.Proofs.Ytomfonilbenhbaa
