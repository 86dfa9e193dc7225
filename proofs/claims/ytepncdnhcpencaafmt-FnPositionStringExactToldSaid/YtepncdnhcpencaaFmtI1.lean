/-
  fmt.Sprintf (with the operands' methods called) at this seat; errorf by its contract. Conditions: F answers the tape.
-/
import Derived.Test.YtepncdnhcpencaaFmtCl
import Derived.BigRegion
import Derived.Stop.CallBack
import Derived.Stop.IfaceNil
import GoSem.ClaimData
import Derived.Stop.JoinedAt
import Derived.Stop.Texts
import Derived.Stop.JoinedTold
import Derived.Stop.FmtQuoteTie
import Derived.Stop.FmtTextKit
namespace Go.Proofs.YtepncdnhcpencaaFmt
open Go.RowKit Go.Kit Go.Extern.Stop Go.Stop Go.Extern
set_option linter.unusedSimpArgs false
set_option linter.unusedVariables false
theorem stop_call (args : Array Value) (w : World) : (callFunc 16 args).run Tryf.prog w = (FmtCalls.sprintf #[9, 40] #[9] args).run Tryf.prog w :=
  run_callFunc_next Tryf.func16 (by kernel_rfl) (by kernel_rfl) (by kernel_rfl) args w
theorem stop_guard (name : String) (w : World) : (FmtStop.guard name).run Tryf.prog w = .ok () w := by kernel_rfl
theorem nextTurns : Extern.next FmtCalls.turnsRow = some (FmtCalls.begun #[] #[]) := by kernel_rfl
theorem pfmt0 : FmtStop.printed? ⟨#[37, 115]⟩ 1 = some [(0, 115, false)] := by kernel_rfl
theorem pfmt0r (w : World) : (FmtDoors.printed ⟨#[37, 115]⟩ 1).run Tryf.prog w = .ok [(0, 115, false)] w := by kernel_rfl
theorem pfmt1 : FmtStop.printed? ⟨#[37, 115]⟩ 0 = some [] := by kernel_rfl
theorem pfmt1r (w : World) : (FmtDoors.printed ⟨#[37, 115]⟩ 0).run Tryf.prog w = .ok [] w := by kernel_rfl
def shapeS : List UInt8 := [12, 6, 0, 0, 0, 0, 0, 0, 0, 115, 116, 114, 105, 110, 103]
theorem opS_115 (name : String) (x : ByteArray) (w : World) : (FmtStop.operand name false 115 false (.iface 9 (.string x))).run Tryf.prog w = .ok (shapeS, FmtStop.pack x.data.toList) w := by kernel_rfl
theorem opS_118 (name : String) (x : ByteArray) (w : World) : (FmtStop.operand name false 118 false (.iface 9 (.string x))).run Tryf.prog w = .ok (shapeS, FmtStop.pack x.data.toList) w := by kernel_rfl
theorem actS_115 (name : String) (x : Value) (w : World) : (FmtCalls.act name false 115 false (.iface 9 x)).run Tryf.prog w = .ok (.closed false) w := by kernel_rfl
theorem actS_118 (name : String) (x : Value) (w : World) : (FmtCalls.act name false 118 false (.iface 9 x)).run Tryf.prog w = .ok (.closed false) w := by kernel_rfl
theorem strictS (name : String) (x : ByteArray) (w : World) : (FmtStop.strict name (.iface 9 (.string x))).run Tryf.prog w = .ok (shapeS, FmtStop.pack x.data.toList) w := by kernel_rfl
attribute [go_sem] stop_call stop_guard pfmt0 pfmt0r pfmt1 pfmt1r opS_118 opS_115 actS_115 actS_118 strictS
/-- The text that Sprintf gives at "%s" and s. -/
def told (F : Interp) (s : ByteArray) : ByteArray := FmtStop.textOf (F "fmt.Sprintf" [[37, 115], shapeS, FmtStop.pack s.data.toList] 0)
set_option maxHeartbeats 2000000 in
set_option maxRecDepth 100000 in
theorem er_any (F : Interp) (fn s : ByteArray) (o l c : Int) (b : Nat) (w : World) (hF : F.answers w.tape) (hz : w.heap[b]? = some (.cells #[.iface 9 (.string s)] 20 (0, 0))) :
    Calls Tryf.prog 17 #[.agg #[.string fn, .int .i64 o, .int .i64 l, .int .i64 c], .string ⟨#[37, 115]⟩, .slice (some ⟨b, 0, none⟩) 1 1] w fun e w' =>
      ∃ p, e = .returned (.pointer (some ⟨p, 0, none⟩)) ∧ w.heap.size ≤ p ∧ Blk w' p 32 #[.string (told F s), .string fn, .int .i64 o, .int .i64 l, .int .i64 c] ∧ Below w.heap.size w w' := by
  have hF' := answers_open hF
  have hbl := lt_of_some hz
  obtain ⟨w1, hw1⟩ : ∃ W, W = w.alloc (.cells #[.string fn, .int .i64 o, .int .i64 l, .int .i64 c] 24) := ⟨_, rfl⟩
  have hb1 : Below w.heap.size w w1 := by rw [hw1]; exact (Below.refl _ _).alloc (Nat.le_refl _) _
  have hk1 : Blk w1 w.heap.size 24 #[.string fn, .int .i64 o, .int .i64 l, .int .i64 c] := by rw [hw1]; exact Blk.new _ _ _
  have hf1 : ∀ i name reading k range, w1.tape i (.extern (word name reading k) range) = F name reading k := by rw [hb1.tape]; exact hF'
  have hc0 : w1.cell? ⟨b, 0, none⟩ = some (.iface 9 (.string s)) := (hb1.cell (p := ⟨b, 0, none⟩) hbl).trans (by simp [World.cell?, hz])
  have p0 := hk1.cell 0
  have p1 := hk1.cell 1
  have p2 := hk1.cell 2
  have p3 := hk1.cell 3
  simp at p0 p1 p2 p3
  go_enter Tryf.func17, Tryf.ntmps17
  go_wp2_with fail
  rw [← hw1]
  generalize hg : w.heap.size = g at hk1 p0 p1 p2 p3 hb1
  clear hw1 hF' hF hz hbl hk1
  go_region_with (go_simp; apply rows_value nextTurns; case hr => (go_simp; exact ⟨rfl, rfl⟩))
  all_goals
    go_wp2_with fail
    go_ret
    subst hg
    exact ⟨_, rfl, hb1.size, Blk.new _ _ _, Below.alloc (Below.drew (Below.drew hb1)) hb1.size _⟩
end Go.Proofs.YtepncdnhcpencaaFmt
