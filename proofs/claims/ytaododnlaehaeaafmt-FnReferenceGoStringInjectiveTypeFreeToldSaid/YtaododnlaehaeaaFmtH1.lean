/-
  The walk of FnReferenceGoStringInjectiveTypeFree, fmt's one text told. Conditions: F answers the tape.
-/
import Derived.Test.YtaododnlaehaeaaFmtCl
import Derived.Stop.CallBack
import Derived.Stop.IfaceNil
import GoSem.ClaimData
import Derived.Stop.JoinedAt
import Derived.Stop.Texts
import Derived.Stop.JoinedTold
import Derived.Stop.FmtQuoteTie
import Derived.Stop.FmtTextKit
namespace Go.Proofs.YtaododnlaehaeaaFmt
open Go.RowKit Go.Kit Go.Extern.Stop Go.Stop Go.Extern
set_option linter.unusedSimpArgs false
set_option linter.unusedVariables false
theorem stop_call (args : Array Value) (w : World) : (callFunc 8 args).run Tryf.prog w = ((FmtStop.sprintf #[9, 46] #[9] args).run Tryf.prog w).andThen fun v w' => .ok (.value v) w' :=
  run_callFunc_extern Tryf.func8 (by kernel_rfl) (by kernel_rfl) (by kernel_rfl) (by kernel_rfl) args w
theorem stop_guard (name : String) (w : World) : (FmtStop.guard name).run Tryf.prog w = .ok () w := by kernel_rfl
theorem pfmt0 : FmtStop.printed? ⟨#[114, 101, 102, 101, 114, 101, 110, 99, 101, 123, 37, 115, 125]⟩ 1 = some [(0, 115, false)] := by kernel_rfl
theorem pfmt0r (w : World) : (FmtDoors.printed ⟨#[114, 101, 102, 101, 114, 101, 110, 99, 101, 123, 37, 115, 125]⟩ 1).run Tryf.prog w = .ok [(0, 115, false)] w := by kernel_rfl
theorem pfmt1 : FmtStop.printed? ⟨#[114, 101, 102, 101, 114, 101, 110, 99, 101, 123, 37, 115, 125]⟩ 0 = some [] := by kernel_rfl
theorem pfmt1r (w : World) : (FmtDoors.printed ⟨#[114, 101, 102, 101, 114, 101, 110, 99, 101, 123, 37, 115, 125]⟩ 0).run Tryf.prog w = .ok [] w := by kernel_rfl
def shapeS : List UInt8 := [12, 6, 0, 0, 0, 0, 0, 0, 0, 115, 116, 114, 105, 110, 103]
theorem opS_115 (name : String) (x : ByteArray) (w : World) : (FmtStop.operand name false 115 false (.iface 9 (.string x))).run Tryf.prog w = .ok (shapeS, FmtStop.pack x.data.toList) w := by kernel_rfl
theorem opS_118 (name : String) (x : ByteArray) (w : World) : (FmtStop.operand name false 118 false (.iface 9 (.string x))).run Tryf.prog w = .ok (shapeS, FmtStop.pack x.data.toList) w := by kernel_rfl
theorem strictS (name : String) (x : ByteArray) (w : World) : (FmtStop.strict name (.iface 9 (.string x))).run Tryf.prog w = .ok (shapeS, FmtStop.pack x.data.toList) w := by kernel_rfl
attribute [go_sem] stop_call stop_guard pfmt0 pfmt0r pfmt1 pfmt1r opS_118 opS_115 strictS
namespace fnReferenceGoStringInjectiveTypeFree
def refL (s : List UInt8) : List UInt8 := [114, 101, 102, 101, 114, 101, 110, 99, 101, 123] ++ s ++ [125]
/-- What GoString prints. -/
def refT (s : ByteArray) : ByteArray := ⟨(refL s.data.toList).toArray⟩
theorem ba_ext {a b : ByteArray} (h : a.data.toList = b.data.toList) : a = b := by
  cases a; cases b
  simp at h
  subst h
  rfl
theorem toList_ne2 {a b : ByteArray} (h : a ≠ b) : (a.toList == b.toList) = false := by
  rw [ByteArray.toList_eq, ByteArray.toList_eq]
  have : ¬ a.data.toList = b.data.toList := fun e => h (ba_ext e)
  simpa using this
theorem refT_inj {a b : ByteArray} (h : refT a = refT b) : a = b := by
  unfold refT refL at h
  simp at h
  exact ba_ext (by rw [h])
theorem t_parse : (FmtText.parse [114, 101, 102, 101, 114, 101, 110, 99, 101, 123, 37, 115, 125]).map FmtText.glue = some [.lit [114, 101, 102, 101, 114, 101, 110, 99, 101, 123], .verb {} 115, .lit [125]] := by rfl
theorem t_text (s : List UInt8) (hs : s.length < 2 ^ 64) : FmtText.text "fmt.Sprintf" [[114, 101, 102, 101, 114, 101, 110, 99, 101, 123, 37, 115, 125], shapeS, FmtStop.pack s] = some (refL s) := by
  have hn := FmtText.operand_str_at (sh := shapeS) rfl rfl s hs
  rw [FmtText.text_sprintf_glued t_parse (FmtText.operands_cons hn FmtText.operands_nil)]
  simp [FmtText.render, FmtText.printArg_s_str, refL]
theorem told_ref (F : Interp) (s : ByteArray) (hs : s.size ≤ 524288) : FmtStop.textOf (F.told "fmt.Sprintf" [[114, 101, 102, 101, 114, 101, 110, 99, 101, 123, 37, 115, 125], shapeS, FmtStop.pack s.data.toList] 0) = refT s := by
  have hl : s.data.toList.length ≤ 524288 := by simpa using hs
  have ht := told_string F (t_text s.data.toList (by omega)) (by simp only [refL, List.length_append, List.length_cons, List.length_nil]; omega)
  refine ba_ext ?_
  rw [textOf_list, ht]
  simp [refT]
set_option maxRecDepth 100000 in
theorem zz (t1 t2 : Int) (a b : ByteArray) (w : World) (ha : a.size ≤ maxLen) (hb : b.size ≤ maxLen) : Calls Tryf.prog 4 #[.int .i64 t1, .int .i64 t2, .string a, .string b] w (BoolAny w) := by
  unfold maxLen at ha hb
  go_enter Tryf.func4, Tryf.ntmps4
  go_wp2_with fail
  all_goals (go_ret; exact ⟨_, rfl, rfl⟩)
set_option maxRecDepth 100000 in
theorem nr (ty : Int) (s : ByteArray) (w : World) : Calls Tryf.prog 6 #[.int .i64 ty, .string s] w fun e w' => e = .returned (.pointer (some ⟨w.heap.size, 0, none⟩)) ∧ w' = w.alloc (.cells #[.int .i64 ty, .string s] 29) := by
  go_enter Tryf.func6, Tryf.ntmps6
  go_wp2_with fail
  go_ret
  exact ⟨rfl, rfl⟩
set_option maxHeartbeats 2000000 in
set_option maxRecDepth 100000 in
theorem gs (F : Interp) (b : Nat) (ty : Int) (s : ByteArray) (w : World) (hF : F.told.answers w.tape) (hs : s.size ≤ 524288) (hb : Blk w b 29 #[.int .i64 ty, .string s]) :
    Calls Tryf.prog 7 #[.pointer (some ⟨b, 0, none⟩)] w fun e w' => e = .returned (.string (refT s)) ∧ Below w.heap.size w w' := by
  have hF' := answers_open hF
  have hT := told_ref F s hs
  have h0 := hb.cell 0
  have h1 := hb.cell 1
  simp at h0 h1
  clear hb hF
  go_enter Tryf.func7, Tryf.ntmps7
  go_wp2_with fail
  go_ret
  exact ⟨rfl, ((Below.refl _ _).alloc (Nat.le_refl _) _).drew⟩
set_option maxRecDepth 100000 in
theorem zg (F : Interp) (ty : Int) (s : ByteArray) (w : World) (hF : F.told.answers w.tape) (hs : s.size ≤ 524288) :
    Calls Tryf.prog 5 #[.int .i64 ty, .string s] w fun e w' => e = .returned (.string (refT s)) ∧ Below w.heap.size w w' := by
  have hN := Lib.hid (nr ty s w)
  have hG := Lib.hid (gs F w.heap.size ty s (w.alloc (.cells #[.int .i64 ty, .string s] 29)) hF hs (Blk.new _ _ _))
  go_enter Tryf.func5, Tryf.ntmps5
  go_wp2_with fail
  refine hN.out.mono ?_
  rintro e w1 ⟨rfl, rfl⟩
  go_wp2_with fail
  refine hG.out.mono ?_
  rintro e w2 ⟨rfl, hb⟩
  go_wp2_with fail
  go_ret
  exact ⟨rfl, below_next hb ((Below.refl _ _).alloc (Nat.le_refl _) _)⟩
set_option maxHeartbeats 2000000 in
set_option maxRecDepth 100000 in
theorem walk (F : Interp) (t1 t2 : Int) (a b : ByteArray) (w : World) (hF : F.told.answers w.tape) (h1 : (Lit.int .i64 t1).wf = true) (h2 : (Lit.int .i64 t2).wf = true) (ha : a.size ≤ maxLen) (hb : b.size ≤ maxLen) :
    Calls Tryf.prog 3 #[.int .i64 t1, .int .i64 t2, .string a, .string b] w fun e w' => e = .returned (.bool true) ∧ Below w.heap.size w w' := by
  have HZ := Lib.hid (zz t1 t2 a b w ha hb)
  have HG := Lib.hid (fun (ty : Int) (s : ByteArray) (W : World) (h : Below w.heap.size w W) (hs : s.size ≤ 524288) => zg F ty s W (by rw [h.tape]; exact hF) hs)
  unfold maxLen at ha hb
  clear hF
  by_cases hab : a = b
  · subst hab
    go_enter Tryf.func3, Tryf.ntmps3
    go_wp2_with fail
    refine HZ.out.mono ?_
    rintro e w' ⟨bz, rfl, rfl⟩
    go_wp2_with fail
    all_goals try (go_ret; exact ⟨rfl, Below.refl _ _⟩)
    refine (HG.out _ _ _ (Below.refl _ _) (by omega)).mono ?_
    rintro e w1 ⟨rfl, hb1⟩
    go_wp2_with fail
    refine (HG.out _ _ _ hb1 (by omega)).mono ?_
    rintro e w2 ⟨rfl, hb2⟩
    have hb2' := below_next hb2 hb1
    go_wp2_with fail
    refine (HG.out _ _ _ hb2' (by omega)).mono ?_
    rintro e w3 ⟨rfl, hb3⟩
    have hb3' := below_next hb3 hb2'
    go_wp2_with fail
    go_ret
    exact ⟨rfl, hb3'⟩
  · have e1 := toList_ne2 hab
    have e2 := toList_ne2 (fun h => hab (refT_inj h))
    go_enter Tryf.func3, Tryf.ntmps3
    go_wp2_with fail
    refine HZ.out.mono ?_
    rintro e w' ⟨bz, rfl, rfl⟩
    go_wp2_with fail
    all_goals try (go_ret; exact ⟨rfl, Below.refl _ _⟩)
    refine (HG.out _ _ _ (Below.refl _ _) (by omega)).mono ?_
    rintro e w1 ⟨rfl, hb1⟩
    go_wp2_with fail
    refine (HG.out _ _ _ hb1 (by omega)).mono ?_
    rintro e w2 ⟨rfl, hb2⟩
    have hb2' := below_next hb2 hb1
    go_wp2_with fail
    refine (HG.out _ _ _ hb2' (by omega)).mono ?_
    rintro e w3 ⟨rfl, hb3⟩
    have hb3' := below_next hb3 hb2'
    go_wp2_with fail
    go_ret
    exact ⟨rfl, hb3'⟩
end fnReferenceGoStringInjectiveTypeFree
end Go.Proofs.YtaododnlaehaeaaFmt
