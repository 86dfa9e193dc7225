/-
  zzFailing: over a lexer that fails at one call Upgrade and ConsumeAll answer as FnTop asks. Conditions: the token row and the elide list read as 'Row', 'Ints' say.
-/
import Derived.Test.YtomfonilbenhbaaY7
import Derived.Test.YtomfonilbenhbaaU9
namespace Go.Proofs.Ytomfonilbenhbaa
open Go.RowKit
set_option linter.unusedSimpArgs false
set_option linter.unusedVariables false
namespace Tp
open Up
theorem esComp : (Try.prog.info? 110).map (·.comparable) = some true := by kernel_rfl
theorem esSize : (Try.prog.info? 112).map (·.size) = some 1 := by kernel_rfl
theorem neq_es (a : Addr) (w : World) : (binOp .neq 35 (.iface 110 (.pointer (some a))) (.iface 110 (.pointer (some a)))).run Try.prog w = .ok (.bool false) w := by
  obtain ⟨i, hi, hcmp⟩ := Option.map_eq_some_iff.1 esComp
  obtain ⟨j, hj, hjs⟩ := Option.map_eq_some_iff.1 esSize
  exact run_neq_iface_ptr_same w a Try.underlying35 Try.underlying110 hi hcmp hj
theorem eql_es (a : Addr) (w : World) : (binOp .eql 35 (.iface 110 (.pointer (some a))) (.iface 110 (.pointer (some a)))).run Try.prog w = .ok (.bool true) w := by
  obtain ⟨i, hi, hcmp⟩ := Option.map_eq_some_iff.1 esComp
  obtain ⟨j, hj, hjs⟩ := Option.map_eq_some_iff.1 esSize
  exact run_eql_iface_ptr_same w a Try.underlying35 Try.underlying110 hi hcmp hj
theorem _root_.Go.Proofs.Ytomfonilbenhbaa.Up.Mid.drewN {w w5 : World} {zb : Nat} {TZ : TypeId} {cs : Array Value} {tb : Nat} {L : List Tok} {j rb mb nm : Nat} {S : Int → Bool} {v : Value} (h : Mid w w5 zb TZ cs tb L j rb mb nm S v) (q : Nat) : Mid w (w5.drewN q) zb TZ cs tb L j rb mb nm S v :=
  ⟨h.z, h.src, h.r, h.set, h.own, h.rge, h.mge, h.tlt, grown_drewN h.grown q⟩
theorem mid_range {w w6 : World} {zb : Nat} {TZ : TypeId} {cs : Array Value} {tb : Nat} {L : List Tok} {m pb mb nm : Nat} {S : Int → Bool} {u : Value} (h : Mid w w6 zb TZ cs tb L m pb mb nm S u) :
    ∃ g, ∀ W, Mid w W zb TZ cs tb L m pb mb nm S u → Calls Try.prog 20 #[.pointer (some ⟨pb, 0, none⟩), .int .i64 0, .int .i64 m] W (RangePost W g 0 m) ∧ (0 < m → Row W g 46 (toksCells (L.take m))) := by
  rcases own_row h.own with ⟨-, rfl, rfl⟩ | ⟨g, c, rfl, -, -, hr⟩
  · exact ⟨0, fun W h => ⟨range_nil W pb _ _ _ _ 0 0 h.r, fun h => absurd h (Nat.lt_irrefl _)⟩⟩
  · obtain ⟨h1, h2⟩ := own_cap h.own
    exact ⟨g, fun W h => ⟨range_at W pb g m c _ _ _ _ 0 m m h.r (Nat.zero_add _) h1 h2, fun _ => Row.of_own h.own⟩⟩
theorem tsl_take {W : World} {A' : Option Addr} {m g : Nat} {L : List Tok} (hm : m ≤ L.length) (hA : Hid (0 < m → A' = some ⟨g, 0 * 6, none⟩)) (hr : 0 < m → Row W g 46 (toksCells (L.take m))) : TSl W A' m (L.take m) 0 := by
  rcases Nat.eq_zero_or_pos m with h | h
  · exact .inl h
  · exact .inr ⟨g, hA.out h, hr h, by rw [List.length_take]; omega⟩
theorem tsl_row {W : World} {m tt : Nat} {L : List Tok} (hm : m ≤ L.length) (hr : Row W tt 46 (toksCells L)) : TSl W (some ⟨tt, 0, none⟩) m L 0 := .inr ⟨tt, rfl, hr, by omega⟩
set_option maxHeartbeats 4000000 in
set_option maxRecDepth 100000 in
theorem failing_any (w : World) (tt c : Nat) (L : List Tok) (n : Nat) (A : Option Addr) (ne ce : Nat) (z : List Int) (m se : Nat) (hr : Row w tt 46 (toksCells L)) (hT : TB n L) (hv : Ints .i64 w A ne z) (hne : ne ≤ 65536) (hn : n ≤ 65536) (hm : m ≤ n) (hc : L.length ≤ c ∧ c ≤ maxLen) :
    Calls Try.prog 29 #[.slice (some ⟨tt, 0, none⟩) L.length c, .slice A ne ce, .int .i64 m, .iface 110 (.pointer (some ⟨se, 0, none⟩))] w fun e w' => e = .returned (.bool true) ∧ Below w.heap.size w w' := by
  have hlen := hT.len
  have HT := Lib.hid hT
  have HR := Lib.hid hr
  have HV := Lib.hid hv
  have hln : L.length ≤ 65537 ∧ 0 < L.length ∧ m < L.length := by omega
  have HLEN := Lib.hid hlen
  have hsz := hr.lt
  clear hT hr hv hlen
  go_enter Try.func29, Try.ntmps29
  go_wp2_with fail
  have hz0 : Blk (w.alloc (.cells #[.slice (some ⟨tt, 0, none⟩) L.length c, .int .i64 0, .int .i64 m, .iface 110 (.pointer (some ⟨se, 0, none⟩)), .int .i64 0] 70)) w.heap.size 70 #[.slice (some ⟨tt, 0, none⟩) L.length c, .int .i64 0, .int .i64 m, .iface 110 (.pointer (some ⟨se, 0, none⟩)), .int .i64 0] := Blk.new w _ _
  have hb0 : Below w.heap.size w (w.alloc (.cells #[.slice (some ⟨tt, 0, none⟩) L.length c, .int .i64 0, .int .i64 m, .iface 110 (.pointer (some ⟨se, 0, none⟩)), .int .i64 0] 70)) := (Below.refl _ _).alloc (Nat.le_refl _) _
  have hr0 := HR.out.alloc (.cells #[.slice (some ⟨tt, 0, none⟩) L.length c, .int .i64 0, .int .i64 m, .iface 110 (.pointer (some ⟨se, 0, none⟩)), .int .i64 0] 70)
  have hv0 := HV.out.later hb0
  refine (up_fail 68 89 w.heap.size 70 (slZ tt c L m (.iface 110 (.pointer (some ⟨se, 0, none⟩)))) tt L A ne ce z _ m 110 (fun v => slCells tt L.length c (m : Int) (m : Int) (.iface 110 (.pointer (some ⟨se, 0, none⟩))) ((m : Int) + 1)) (fun x => x = se) (sl_src w.heap.size tt c L m _ m (by omega) (by omega) (fun j hj => by omega)) (sl_fails w.heap.size tt c L _ se m (by omega)) (by omega) hv0 (by omega) hz0 hr0 HT.out.first (by omega) (by omega) HT.out.wf).mono ?_
  rintro e w1 ⟨pb, eb, rfl, rfl, mb, nm, S, u, hM⟩
  obtain ⟨w0, hw0⟩ : ∃ x, x = w.alloc (.cells #[.slice (some ⟨tt, 0, none⟩) L.length c, .int .i64 0, .int .i64 m, .iface 110 (.pointer (some ⟨eb, 0, none⟩)), .int .i64 0] 70) := ⟨_, rfl⟩
  have hb1 : Below w.heap.size w w1 := by
    have hg := hM.grown
    exact ⟨hg.os, hg.tape, hg.output, Nat.le_trans (by simp) hg.size, fun i hi => (hg.block i (by simp; omega) (by intro e; injection e with e; omega)).trans (Below.heap_alloc w _ i hi)⟩
  rw [← hw0] at hM
  clear hw0
  have HM := Lib.hid hM
  have q4 := hM.z.cell 4
  simp [slCells] at q4
  have hneq := neq_es ⟨eb, 0, none⟩
  clear hM hz0 hb0 hr0 hv0
  go_wp2_with fail
  obtain ⟨g, hrg⟩ := mid_range HM.out
  have HRG := Lib.hid hrg
  have hm0 : (0 : Int) ≤ (m : Int) := by omega
  have hmc : (m : Int) ≤ (c : Int) := by omega
  have hc0 : ¬ c = 0 := by omega
  have hmid := HM.out
  clear hrg hneq q4
  go_region_held3 (fun w' => Mid w0 w' w.heap.size 70 (slCells tt L.length c (m : Int) (m : Int) (.iface 110 (.pointer (some ⟨eb, 0, none⟩))) ((m : Int) + 1)) tt L m pb mb nm S u ∧ Below w.heap.size w w')
    (first | assumption | exact ⟨hmid.drewN 1, hb1.drew⟩ | (go_split_ands; exact ⟨Mid.drewN (by assumption) _, below_drewN (by assumption) _⟩))
    (first
      | (go_at_call 20; refine (HRG.out _ (by go_split_ands; assumption)).1.mono ?_; rintro e w8 ⟨A', c', rfl, rfl, hA'⟩; have HA' := Lib.hid hA'; clear hA')
      | (go_at_call 31; refine (same_any _ _ _ m _ _ 0 0 (L.take m) L (tsl_take (by omega) HA' (HRG.out _ (by go_split_ands; assumption)).2) (tsl_row (by omega) (Mid.src (by go_split_ands; assumption))) (fun j hj => by rw [Nat.zero_add]; exact take_getD hj) (by omega)).mono ?_; rintro e w8 ⟨rfl, q, rfl⟩))
  obtain ⟨hmid2, hb2⟩ := ‹Mid w0 _ _ _ _ _ _ _ _ _ _ _ _ ∧ _›
  have hr2 := hmid2.src
  clear hmid hb1 hmid2
  go_wp2_with fail
  have hr3 : Row (w1.drewN (1 + q)) tt 46 (toksCells L) := hr2.of_block rfl
  have hb3 : Below w.heap.size w (w1.drewN (1 + q)) := ⟨hb2.os, hb2.tape, hb2.output, hb2.size, hb2.block⟩
  have hsz3 := hb3.size
  clear hr2 hb2
  obtain ⟨w9, hw9⟩ : ∃ x, x = w1.drewN (1 + q) := ⟨_, rfl⟩
  have hs9 : w1.heap.size = w9.heap.size := by rw [hw9]; rfl
  rw [← hw9] at hr3 hb3 hsz3 ⊢
  rw [hs9]
  clear hw9 hs9
  refine (con_fail 68 89 w9.heap.size 70 (slZ tt c L m (.iface 110 (.pointer (some ⟨eb, 0, none⟩)))) tt L (w9.alloc (.cells #[.slice (some ⟨tt, 0, none⟩) L.length c, .int .i64 0, .int .i64 m, .iface 110 (.pointer (some ⟨eb, 0, none⟩)), .int .i64 0] 70)) m 110 (fun v => slCells tt L.length c (m : Int) (m : Int) (.iface 110 (.pointer (some ⟨eb, 0, none⟩))) ((m : Int) + 1)) (fun x => x = eb) (sl_src w9.heap.size tt c L m _ m (by omega) (by omega) (fun j hj => by omega)) (sl_fails w9.heap.size tt c L _ eb m (by omega)) (by omega) (Blk.new w9 _ _) (hr3.alloc _) HT.out.first (by omega)).mono ?_
  rintro e wa ⟨eb', rfl, rfl, hga, -⟩
  have hba : Below w.heap.size w wa := hb3.alloc hsz3 (.cells #[.slice (some ⟨tt, 0, none⟩) L.length c, .int .i64 0, .int .i64 m, .iface 110 (.pointer (some ⟨eb', 0, none⟩)), .int .i64 0] 70) |>.grown hga (by simp; omega) (fun k hk => by injection hk with hk; omega)
  have heql := eql_es ⟨eb', 0, none⟩
  have hq := fun W => Lib.run_eql_slice_nil (P := Try.prog) W 27 46 none 0 0 0 0 Try.underlying27
  simp only [Option.isNone_none] at hq
  clear hga hb3 hsz3 hr3
  go_wp2_with fail
  go_ret
  exact ⟨rfl, hba⟩
end Tp
end Go.Proofs.Ytomfonilbenhbaa
