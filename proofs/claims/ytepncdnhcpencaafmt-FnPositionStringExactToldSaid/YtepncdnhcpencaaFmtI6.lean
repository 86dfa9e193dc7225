/-
  What fmt writes of a position: "%d:%d" and "%s:%d:%d". Conditions: the integers fit int64.
-/
import Derived.Test.YtepncdnhcpencaaFmtI5
namespace Go.Proofs.YtepncdnhcpencaaFmt
open Go.RowKit Go.Kit Go.Extern.Stop Go.Stop Go.Extern
set_option linter.unusedSimpArgs false
set_option linter.unusedVariables false
theorem qfmt2 : FmtStop.printed? ⟨#[37, 100, 58, 37, 100]⟩ 2 = some [(0, 100, false), (1, 100, false)] := by kernel_rfl
theorem qfmt2r (w : World) : (FmtDoors.printed ⟨#[37, 100, 58, 37, 100]⟩ 2).run Tryf.prog w = .ok [(0, 100, false), (1, 100, false)] w := by kernel_rfl
theorem qfmt3 : FmtStop.printed? ⟨#[37, 115, 58, 37, 100, 58, 37, 100]⟩ 3 = some [(0, 115, false), (1, 100, false), (2, 100, false)] := by kernel_rfl
theorem qfmt3r (w : World) : (FmtDoors.printed ⟨#[37, 115, 58, 37, 100, 58, 37, 100]⟩ 3).run Tryf.prog w = .ok [(0, 115, false), (1, 100, false), (2, 100, false)] w := by kernel_rfl
def shapeI : List UInt8 := [5, 3, 0, 0, 0, 0, 0, 0, 0, 105, 110, 116]
theorem opI_100 (name : String) (x : Int) (w : World) : (FmtStop.operand name false 100 false (.iface 3 (.int .i64 x))).run Tryf.prog w = .ok (shapeI, Go.Extern.Stop.digits 8 (x % 2 ^ 64).toNat) w := by kernel_rfl
theorem actI_100 (name : String) (x : Value) (w : World) : (FmtCalls.act name false 100 false (.iface 3 x)).run Tryf.prog w = .ok (.closed false) w := by kernel_rfl
attribute [go_sem] qfmt2 qfmt2r qfmt3 qfmt3r opI_100 actI_100
namespace fnPositionStringExact
open fnErrorfPercentS (ba_ext ec pc)
def read2 (l c : Int) : List (List UInt8) := [[37, 100, 58, 37, 100], shapeI, Go.Extern.Stop.digits 8 (l % 18446744073709551616).toNat, shapeI, Go.Extern.Stop.digits 8 (c % 18446744073709551616).toNat]
def read3 (fn : List UInt8) (l c : Int) : List (List UInt8) := [[37, 115, 58, 37, 100, 58, 37, 100], shapeS, FmtStop.pack fn, shapeI, Go.Extern.Stop.digits 8 (l % 18446744073709551616).toNat, shapeI, Go.Extern.Stop.digits 8 (c % 18446744073709551616).toNat]
def text2 (l c : Int) : List UInt8 := Lib.itoa l ++ [58] ++ Lib.itoa c
def text3 (fn : List UInt8) (l c : Int) : List UInt8 := fn ++ [58] ++ text2 l c
theorem parse2 : (FmtText.parse [37, 100, 58, 37, 100]).map FmtText.glue = some [.verb {} 100, .lit [58], .verb {} 100] := by rfl
theorem parse3 : (FmtText.parse [37, 115, 58, 37, 100, 58, 37, 100]).map FmtText.glue = some [.verb {} 115, .lit [58], .verb {} 100, .lit [58], .verb {} 100] := by rfl
theorem t2 (l c : Int) (hl : (Lit.int .i64 l).wf = true) (hc : (Lit.int .i64 c).wf = true) : FmtText.text "fmt.Sprintf" (read2 l c) = some (text2 l c) := by
  have h1 := FmtText.operand_int_at (sh := shapeI) (k := .i64) rfl rfl l hl
  have h2 := FmtText.operand_int_at (sh := shapeI) (k := .i64) rfl rfl c hc
  rw [read2, FmtText.text_sprintf_glued parse2 (FmtText.operands_cons h1 (FmtText.operands_cons h2 FmtText.operands_nil))]
  simp [FmtText.render, FmtText.printArg_d _ _ hl, FmtText.printArg_d _ _ hc, text2]
theorem t3 (fn : List UInt8) (l c : Int) (hs : fn.length < 2 ^ 64) (hl : (Lit.int .i64 l).wf = true) (hc : (Lit.int .i64 c).wf = true) : FmtText.text "fmt.Sprintf" (read3 fn l c) = some (text3 fn l c) := by
  have h0 := FmtText.operand_str_at (sh := shapeS) rfl rfl fn hs
  have h1 := FmtText.operand_int_at (sh := shapeI) (k := .i64) rfl rfl l hl
  have h2 := FmtText.operand_int_at (sh := shapeI) (k := .i64) rfl rfl c hc
  rw [read3, FmtText.text_sprintf_glued parse3 (FmtText.operands_cons h0 (FmtText.operands_cons h1 (FmtText.operands_cons h2 FmtText.operands_nil)))]
  simp [FmtText.render, FmtText.printArg_d _ _ hl, FmtText.printArg_d _ _ hc, FmtText.printArg_s_str, text3, text2]
theorem wf_range {x : Int} (h : (Lit.int .i64 x).wf = true) : -9223372036854775808 ≤ x ∧ x ≤ 9223372036854775807 := by
  simp [Lit.wf, IntKind.min, IntKind.max, IntKind.signed, IntKind.bits] at h
  omega
theorem text2_len (l c : Int) (hl : (Lit.int .i64 l).wf = true) (hc : (Lit.int .i64 c).wf = true) : (text2 l c).length ≤ 43 := by
  have h1 := Lib.itoa_length_le l (wf_range hl).1 (wf_range hl).2
  have h2 := Lib.itoa_length_le c (wf_range hc).1 (wf_range hc).2
  simp [text2]
  omega
theorem told2 (F : Interp) (l c : Int) (hl : (Lit.int .i64 l).wf = true) (hc : (Lit.int .i64 c).wf = true) : FmtStop.textOf (F.told "fmt.Sprintf" (read2 l c) 0) = ⟨(text2 l c).toArray⟩ := by
  have hn := text2_len l c hl hc
  have ht := told_string F (t2 l c hl hc) (by omega)
  refine ba_ext ?_
  rw [textOf_list, ht]
theorem told3 (F : Interp) (fn : ByteArray) (l c : Int) (hs : fn.size ≤ 1048576) (hl : (Lit.int .i64 l).wf = true) (hc : (Lit.int .i64 c).wf = true) : FmtStop.textOf (F.told "fmt.Sprintf" (read3 fn.data.toList l c) 0) = ⟨(text3 fn.data.toList l c).toArray⟩ := by
  have hn := text2_len l c hl hc
  have hln : fn.data.toList.length ≤ 1048576 := by simpa using hs
  have ht := told_string F (t3 fn.data.toList l c (by omega) hl hc) (by simp only [text3, List.length_append, List.length_cons, List.length_nil]; omega)
  refine ba_ext ?_
  rw [textOf_list, ht]
set_option maxHeartbeats 2000000 in
set_option maxRecDepth 100000 in
theorem ps_empty (F : Interp) (o l c : Int) (w : World) (hF : F.told.answers w.tape) (hl : (Lit.int .i64 l).wf = true) (hc : (Lit.int .i64 c).wf = true) :
    Calls Tryf.prog 8 #[.agg #[.string ⟨#[]⟩, .int .i64 o, .int .i64 l, .int .i64 c]] w fun e w' => e = .returned (.string ⟨(text2 l c).toArray⟩) ∧ Below w.heap.size w w' := by
  have hF' := answers_open hF
  have HT := Lib.hid (told2 F l c hl hc)
  clear hF hl hc
  go_enter Tryf.func8, Tryf.ntmps8
  go_wp2_with fail
  apply rows_value nextTurns
  case hr =>
    go_simp
    exact ⟨rfl, rfl⟩
  case h =>
    go_wp2_with fail
    go_ret
    refine ⟨congrArg (fun x => Ending.returned (Value.string x)) HT.out, ?_⟩
    exact (((Below.refl _ _).alloc (Nat.le_refl _) _).alloc (by simp) _).drew
set_option maxHeartbeats 2000000 in
set_option maxRecDepth 100000 in
theorem ps_named (F : Interp) (fn : ByteArray) (o l c : Int) (w : World) (hF : F.told.answers w.tape) (hn : fn.toList.isEmpty = false) (hs : fn.size ≤ 1048576) (hl : (Lit.int .i64 l).wf = true) (hc : (Lit.int .i64 c).wf = true) :
    Calls Tryf.prog 8 #[.agg #[.string fn, .int .i64 o, .int .i64 l, .int .i64 c]] w fun e w' => e = .returned (.string ⟨(text3 fn.data.toList l c).toArray⟩) ∧ Below w.heap.size w w' := by
  have hF' := answers_open hF
  have HT := Lib.hid (told3 F fn l c hs hl hc)
  clear hF hl hc
  go_enter Tryf.func8, Tryf.ntmps8
  go_wp2_with fail
  apply rows_value nextTurns
  case hr =>
    go_simp
    exact ⟨rfl, rfl⟩
  case h =>
    go_wp2_with fail
    go_ret
    refine ⟨congrArg (fun x => Ending.returned (Value.string x)) HT.out, ?_⟩
    exact (((Below.refl _ _).alloc (Nat.le_refl _) _).alloc (by simp) _).drew
end fnPositionStringExact
end Go.Proofs.YtepncdnhcpencaaFmt
