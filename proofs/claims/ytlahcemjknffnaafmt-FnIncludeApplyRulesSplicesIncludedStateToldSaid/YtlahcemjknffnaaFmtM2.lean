/-
  fmt's stop at this seat: closed facts for the one format of include.applyRules; the contract of fmt.Errorf there. Conditions: F answers the tape.
-/
import Derived.Test.YtlahcemjknffnaaFmtM1
namespace Go.Proofs.YtlahcemjknffnaaFmt
open Go.RowKit Go.Extern.Stop Go.Stop Go.Extern
set_option linter.unusedSimpArgs false
set_option linter.unusedVariables false
namespace fnInc
def fmtI : ByteArray := ⟨#[108, 101, 120, 101, 114, 58, 32, 105, 110, 118, 97, 108, 105, 100, 32, 105, 110, 99, 108, 117, 100, 101, 32, 115, 116, 97, 116, 101, 32, 37, 113]⟩
theorem pfmt0 : FmtStop.printed? ⟨#[108, 101, 120, 101, 114, 58, 32, 105, 110, 118, 97, 108, 105, 100, 32, 105, 110, 99, 108, 117, 100, 101, 32, 115, 116, 97, 116, 101, 32, 37, 113]⟩ 1 = some [(0, 113, false)] := by kernel_rfl
theorem pfmt0r (w : World) : (FmtDoors.printed ⟨#[108, 101, 120, 101, 114, 58, 32, 105, 110, 118, 97, 108, 105, 100, 32, 105, 110, 99, 108, 117, 100, 101, 32, 115, 116, 97, 116, 101, 32, 37, 113]⟩ 1).run Tryf.prog w = .ok [(0, 113, false)] w := by kernel_rfl
theorem pfmt1 : FmtStop.printed? ⟨#[108, 101, 120, 101, 114, 58, 32, 105, 110, 118, 97, 108, 105, 100, 32, 105, 110, 99, 108, 117, 100, 101, 32, 115, 116, 97, 116, 101, 32, 37, 113]⟩ 0 = some [] := by kernel_rfl
theorem pfmt1r (w : World) : (FmtDoors.printed ⟨#[108, 101, 120, 101, 114, 58, 32, 105, 110, 118, 97, 108, 105, 100, 32, 105, 110, 99, 108, 117, 100, 101, 32, 115, 116, 97, 116, 101, 32, 37, 113]⟩ 0).run Tryf.prog w = .ok [] w := by kernel_rfl
attribute [go_sem] pfmt0 pfmt0r pfmt1 pfmt1r
set_option maxHeartbeats 2000000 in
set_option maxRecDepth 100000 in
theorem errorf_any (F : Interp) (s : ByteArray) (b : Nat) (w : World) (hF : F.answers w.tape) (hc : w.cell? ⟨b, 0, none⟩ = some (.iface 9 (.string s))) (hz : w.heap[b]? = some (.cells #[.iface 9 (.string s)] 20 (0, 0))) :
    Calls Tryf.prog 15 #[.string ⟨#[108, 101, 120, 101, 114, 58, 32, 105, 110, 118, 97, 108, 105, 100, 32, 105, 110, 99, 108, 117, 100, 101, 32, 115, 116, 97, 116, 101, 32, 37, 113]⟩, .slice (some ⟨b, 0, none⟩) 1 1] w fun e w' =>
      ∃ p, e = .returned (.iface 58 (.pointer (some ⟨p, 0, none⟩))) ∧ Below w.heap.size w w' := by
  have hF' := answers_open hF
  go_enter Tryf.func15, Tryf.ntmps15
  go_wp2_with fail
  go_ret
  exact ⟨_, rfl, ((Below.refl _ _).alloc (Nat.le_refl _) _).drew⟩
end fnInc
end Go.Proofs.YtlahcemjknffnaaFmt
