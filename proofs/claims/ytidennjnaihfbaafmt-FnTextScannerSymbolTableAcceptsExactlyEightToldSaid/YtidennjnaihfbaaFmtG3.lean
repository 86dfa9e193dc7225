/-
  The walk of FnTextScannerSymbolTableAcceptsExactlyEight. Conditions: F answers the tape.
-/
import Derived.Test.YtidennjnaihfbaaFmtG2
namespace Go.Proofs.YtidennjnaihfbaaFmt
open Go.RowKit Go.Extern.Stop Go.Stop Go.Extern
set_option linter.unusedSimpArgs false
set_option linter.unusedVariables false
namespace fnTextScannerSymbolTableAcceptsExactlyEight
set_option maxRecDepth 100000 in
theorem zz (t : ByteArray) (w : World) (ht : t.size ≤ maxLen) : Calls Tryf.prog 5 #[.string t] w (BoolAny w) := by
  unfold maxLen at ht
  go_enter Tryf.func5, Tryf.ntmps5
  go_wp2_with fail
  all_goals (go_ret; exact ⟨_, rfl, rfl⟩)
theorem strs_one (w : World) (t : ByteArray) (b : Nat) (hb : w.heap[b]? = some (.cells #[.string t] 9 (0, 0))) (ht : t.size ≤ maxLen) : Strs w (some ⟨b, 0, none⟩) 1 [t] := by
  refine ⟨rfl, by decide, by simpa using ht, .inr ⟨b, 0, rfl, lt_of_some hb, fun i hi => ?_⟩⟩
  obtain rfl : i = 0 := by omega
  simp [World.cell?, hb]
set_option maxHeartbeats 2000000 in
set_option maxRecDepth 100000 in
theorem walk (F : Interp) (t : ByteArray) (w : World) (hF : F.answers w.tape) (ht : t.size ≤ maxLen) :
    Calls Tryf.prog 3 #[.string t] w fun e w' => e = .returned (.bool true) ∧ Below w.heap.size w w' := by
  have HZ := Lib.hid (zz t w ht)
  have hmn : ∀ W : World, (binOp BinOp.eql 23 (.map none) (.map none)).run Tryf.prog W = .ok (.bool true) W := fun W => by kernel_rfl
  have HM := Lib.hid (mst_any F)
  have HTS := Lib.hid (ts_any t)
  have HFt := Lib.hid hF
  have HS := Lib.hid (fun W b hb => strs_one W t b hb ht)
  unfold maxLen at ht
  clear hF
  go_enter Tryf.func3, Tryf.ntmps3
  go_wp2_with fail
  refine HZ.out.mono ?_
  rintro e w' ⟨bz, rfl, rfl⟩
  go_wp2_with fail
  all_goals try (go_ret; exact ⟨rfl, Below.refl _ _⟩)
  refine (new_any _).mono ?_
  rintro e w1 ⟨p, rfl, hb1⟩
  go_wp2_with fail
  refine (HM.out p _ 1 1 [t] _ (by exact (by rw [hb1.tape]; exact HFt.out : F.answers w1.tape)) (by exact HS.out _ _ (heap_new' _ _ _ (by simp))) (by omega)).mono ?_
  rintro e w2 ⟨hb2, hp⟩
  have hbw := below_next hb2 (hb1.alloc hb1.size _)
  by_cases hc : code t = 0
  · have HT0 : Hid (∀ W, Calls Tryf.prog 8 #[.string t] W fun e w' => e = .returned (.tuple #[.int .i64 0, .bool false]) ∧ W = w') := Lib.hid (fun W => by
      have := HTS.out W
      rw [hc] at this
      exact this)
    rcases hp with ⟨hk, -⟩ | ⟨-, q, rfl⟩
    · exact absurd hc (hk t (by simp))
    · go_wp2_with fail
      refine (HT0.out _).mono ?_
      rintro e w3 ⟨rfl, rfl⟩
      go_wp2_with fail
      go_ret
      exact ⟨rfl, hbw⟩
  · have hd : decide (code t ≠ 0) = true := by simpa using hc
    have HT0 : Hid (∀ W, Calls Tryf.prog 8 #[.string t] W fun e w' => e = .returned (.tuple #[.int .i64 (code t), .bool true]) ∧ W = w') := Lib.hid (fun W => by
      have := HTS.out W
      rw [hd] at this
      exact this)
    rcases hp with ⟨-, b, rfl, hbb, htm⟩ | ⟨hk, -⟩
    · have hl1 := tab_len 3 htm
      rw [show Maps.size (tabD [t]) = 1 from rfl] at hl1
      have hk1 := tab_run htm (code_wf t)
      rw [show ([t].any fun s => decide (code s = code t)) = true from by simp] at hk1
      clear hd hc htm
      generalize code t = ct at HT0 hk1
      go_wp2_with fail
      refine (HT0.out _).mono ?_
      rintro e w3 ⟨rfl, rfl⟩
      go_wp2_with fail
      go_ret
      exact ⟨rfl, hbw⟩
    · exact absurd (fun s hs => by rw [List.mem_singleton.1 hs]; exact hc) hk
end fnTextScannerSymbolTableAcceptsExactlyEight
end Go.Proofs.YtidennjnaihfbaaFmt
