/-
  The symbols of the text scanner's definition, fmt's one format at this seat, the codes of names. Conditions: as stated; F answers the tape.
-/
import Derived.Test.YtidennjnaihfbaaFmtCl
import Derived.Stop.CallBack
import Derived.Stop.IfaceNil
import GoSem.ClaimData
import Derived.Maps.OwnSet
import Derived.StringKeys
namespace Go.Proofs.YtidennjnaihfbaaFmt
open Go.RowKit Go.Extern.Stop Go.Stop Go.Extern
set_option linter.unusedSimpArgs false
set_option linter.unusedVariables false
theorem stop_call (args : Array Value) (w : World) : (callFunc 14 args).run Tryf.prog w = ((FmtStop.errorf #[9, 47] #[25] args).run Tryf.prog w).andThen fun v w' => .ok (.value v) w' :=
  run_callFunc_extern Tryf.func14 (by kernel_rfl) (by kernel_rfl) (by kernel_rfl) (by kernel_rfl) args w
theorem stop_guard (name : String) (w : World) : (FmtStop.guard name).run Tryf.prog w = .ok () w := by kernel_rfl
theorem pfmt0 : FmtStop.printed? ⟨#[108, 101, 120, 101, 114, 32, 100, 111, 101, 115, 32, 110, 111, 116, 32, 115, 117, 112, 112, 111, 114, 116, 32, 115, 121, 109, 98, 111, 108, 32, 37, 113]⟩ 1 = some [(0, 113, false)] := by kernel_rfl
theorem pfmt0r (w : World) : (FmtDoors.printed ⟨#[108, 101, 120, 101, 114, 32, 100, 111, 101, 115, 32, 110, 111, 116, 32, 115, 117, 112, 112, 111, 114, 116, 32, 115, 121, 109, 98, 111, 108, 32, 37, 113]⟩ 1).run Tryf.prog w = .ok [(0, 113, false)] w := by kernel_rfl
theorem pfmt1 : FmtStop.printed? ⟨#[108, 101, 120, 101, 114, 32, 100, 111, 101, 115, 32, 110, 111, 116, 32, 115, 117, 112, 112, 111, 114, 116, 32, 115, 121, 109, 98, 111, 108, 32, 37, 113]⟩ 0 = some [] := by kernel_rfl
theorem pfmt1r (w : World) : (FmtDoors.printed ⟨#[108, 101, 120, 101, 114, 32, 100, 111, 101, 115, 32, 110, 111, 116, 32, 115, 117, 112, 112, 111, 114, 116, 32, 115, 121, 109, 98, 111, 108, 32, 37, 113]⟩ 0).run Tryf.prog w = .ok [] w := by kernel_rfl
def shapeS : List UInt8 := [12, 6, 0, 0, 0, 0, 0, 0, 0, 115, 116, 114, 105, 110, 103]
theorem opS_118 (name : String) (x : ByteArray) (w : World) : (FmtStop.operand name false 118 false (.iface 9 (.string x))).run Tryf.prog w = .ok (shapeS, FmtStop.pack x.data.toList) w := by kernel_rfl
theorem opS_113 (name : String) (x : ByteArray) (w : World) : (FmtStop.operand name false 113 false (.iface 9 (.string x))).run Tryf.prog w = .ok (shapeS, FmtStop.pack x.data.toList) w := by kernel_rfl
theorem opS_118w (name : String) (x : ByteArray) (w : World) : (FmtStop.operand name true 118 false (.iface 9 (.string x))).run Tryf.prog w = .ok (shapeS, FmtStop.pack x.data.toList) w := by kernel_rfl
theorem opS_113w (name : String) (x : ByteArray) (w : World) : (FmtStop.operand name true 113 false (.iface 9 (.string x))).run Tryf.prog w = .ok (shapeS, FmtStop.pack x.data.toList) w := by kernel_rfl
theorem strictS (name : String) (x : ByteArray) (w : World) : (FmtStop.strict name (.iface 9 (.string x))).run Tryf.prog w = .ok (shapeS, FmtStop.pack x.data.toList) w := by kernel_rfl
theorem ptrES (w : World) : (FmtStop.ptrTo "errors.errorString").run Tryf.prog w = .ok 50 w := by kernel_rfl
theorem elemES (w : World) : (elemOf 50).run Tryf.prog w = .ok 52 w := by kernel_rfl
theorem isErrES (w : World) : (FmtDoors.textMethod 50 "Error").run Tryf.prog w = .ok true w := by kernel_rfl
attribute [go_sem] stop_call stop_guard pfmt0 pfmt0r pfmt1 pfmt1r opS_118 opS_113 opS_118w opS_113w strictS ptrES elemES isErrES
set_option maxHeartbeats 2000000 in
set_option maxRecDepth 100000 in
theorem errorf_any (F : Interp) (s : ByteArray) (b : Nat) (w : World) (hF : F.answers w.tape) (hc : w.cell? ⟨b, 0, none⟩ = some (.iface 9 (.string s))) (hz : w.heap[b]? = some (.cells #[.iface 9 (.string s)] 20 (0, 0))) :
    Calls Tryf.prog 13 #[.string ⟨#[108, 101, 120, 101, 114, 32, 100, 111, 101, 115, 32, 110, 111, 116, 32, 115, 117, 112, 112, 111, 114, 116, 32, 115, 121, 109, 98, 111, 108, 32, 37, 113]⟩, .slice (some ⟨b, 0, none⟩) 1 1] w fun e w' =>
      ∃ p, e = .returned (.iface 50 (.pointer (some ⟨p, 0, none⟩))) ∧ Below w.heap.size w w' := by
  have hF' := answers_open hF
  go_enter Tryf.func13, Tryf.ntmps13
  go_wp2_with fail
  go_ret
  exact ⟨_, rfl, ((Below.refl _ _).alloc (Nat.le_refl _) _).drew⟩
/-- 'm[k] = v' of a composite literal, at the operation. -/
theorem wpList_insert_in {P : Program} (w : World) {ops : Array Oper} {rest : List Oper} {o : Oper} {a : Act} {Q : Exit → Act → World → Prop} (hg : o.guard = none) (m x v : Operand) (t : TypeId) (hop : o.op = Op.insert t m x v)
    (k e : TypeId) (K : Maps.Keyed P k) (ht : P.underlying t = some (.map k e)) (R : Value → Option (DataW Unit × List MemPlace)) (b n : Nat) (D : DataW Unit)
    (hm : a.eval m = .map (some b)) (hown : w.ownsMap P k R b n D) (hn : n < maxLen) (key val : Value) (kl : Lit) (hx : a.eval x = key) (hv : a.eval v = val) (hkey : keyOf P k key = some kl)
    (d : DataW Unit) (ps : List MemPlace) (hval : R val = some (d, ps))
    (hK : ∀ w', w'.ownsMap P k R b (n + 1) (D.put kl d) → w.mapTurned w' b → wpList P ops Q rest (a.put o.dst undef) w') :
    wpList P ops Q (o :: rest) a w := by
  refine wpList_plain hg fun K' hK' => ?_
  obtain ⟨w', hrun, r1, r2⟩ := hown.store K ht hn hkey hval
  unfold Oper.wp
  simp [execOp, hop, hm, hx, hv, hrun, Result.andThen]
  exact hK' _ _ (hK w' r1 r2)
theorem makeMap_none {P : Program} (t k e : TypeId) (ht : P.underlying t = some (.map k e)) (w : World) : (Instr.makeMap t none).run P w = .ok (.map (some w.heap.size)) (w.alloc (.map #[] 0)) := by
  simp [Instr.makeMap, run_underlying ht]
def sEOF : ByteArray := ⟨#[69, 79, 70]⟩
def sChar : ByteArray := ⟨#[67, 104, 97, 114]⟩
def sIdent : ByteArray := ⟨#[73, 100, 101, 110, 116]⟩
def sInt : ByteArray := ⟨#[73, 110, 116]⟩
def sFloat : ByteArray := ⟨#[70, 108, 111, 97, 116]⟩
def sString : ByteArray := ⟨#[83, 116, 114, 105, 110, 103]⟩
def sRaw : ByteArray := ⟨#[82, 97, 119, 83, 116, 114, 105, 110, 103]⟩
def sComment : ByteArray := ⟨#[67, 111, 109, 109, 101, 110, 116]⟩
def kl (s : ByteArray) : Lit := .string s.data.toList
def el (n : Int) : DataW Unit := .lit (.int .i64 n)
/-- What Symbols hands back. -/
def symD : DataW Unit := ((((((((DataW.map []).put (kl sEOF) (el (-1))).put (kl sChar) (el (-5))).put (kl sIdent) (el (-2))).put (kl sInt) (el (-3))).put (kl sFloat) (el (-4))).put (kl sString) (el (-6))).put (kl sRaw) (el (-7))).put (kl sComment) (el (-8))
theorem symD_size : Maps.size symD = 8 := by decide +kernel
theorem strK : Maps.Keyed Tryf.prog 9 := Maps.string_keyed Tryf.underlying9
theorem keyS (s : ByteArray) (h : s.size ≤ maxLen) : keyOf Tryf.prog 9 (.string s) = some (kl s) := WideMaps.keyOf_string_mk Tryf.underlying9 h
theorem valI (n : Int) (h : (Lit.int .i64 n).wf = true) : plainElem (H := Unit) Tryf.prog 31 (.int .i64 n) = some (el n, []) := plainElem_int Tryf.underlying31 h
theorem zeroT (w : World) : (zeroValue 31).run Tryf.prog w = .ok (.int .i64 0) w := by kernel_rfl
/-- Block b is a map from names to codes that reads as D. -/
def SM (w : World) (b n : Nat) (D : DataW Unit) : Prop := w.ownsMap Tryf.prog 9 (plainElem Tryf.prog 31) b n D
theorem turned_below {w w' : World} {b B : Nat} (h : w.mapTurned w' b) (hb : B ≤ b) {w0 : World} (h0 : Below B w0 w) (hB : B ≤ w.heap.size) : Below B w0 w' := h0.grown h.grown hB (fun k e => by injection e with e; omega)
set_option maxHeartbeats 2000000 in
set_option maxRecDepth 100000 in
theorem symbols_any (p : Nat) (w : World) : Calls Tryf.prog 32 #[.pointer (some ⟨p, 0, none⟩)] w fun e w' => e = .returned (.map (some w.heap.size)) ∧ SM w' w.heap.size 8 symD ∧ Below w.heap.size w w' := by
  have h0 : SM (w.alloc (.map #[] 0)) w.heap.size 0 (.map []) := World.ownsMap_made w _ _ _
  have hb0 : Below w.heap.size w (w.alloc (.map #[] 0)) := (Below.refl _ _).alloc (Nat.le_refl _) _
  unfold SM at h0
  have hmk := fun W => makeMap_none (P := Tryf.prog) 40 9 31 Tryf.underlying40 W
  go_enter Tryf.func32, Tryf.ntmps32
  go_wp2_with (
    refine wpList_insert_in _ rfl _ _ _ 40 rfl 9 31 strK Tryf.underlying40 _ w.heap.size _ _ rfl (by assumption) (by decide) _ _ _ rfl rfl (keyS _ (by decide)) _ _ (valI _ (by decide)) ?_
    intro w' hown' hturn'
    have hb' := turned_below hturn' (Nat.le_refl _) (by assumption : Below w.heap.size w _) (Nat.le_of_lt (World.ownsMap.lt (by assumption)))
    clear hturn')
  go_ret
  exact ⟨rfl, by assumption, by assumption⟩
set_option maxRecDepth 100000 in
theorem new_any (w : World) : Calls Tryf.prog 7 #[.nilFunc] w fun e w' => ∃ p, e = .returned (.iface 44 (.pointer (some ⟨p, 0, none⟩))) ∧ Below w.heap.size w w' := by
  go_enter Tryf.func7, Tryf.ntmps7
  go_wp2_with fail
  go_ret
  exact ⟨_, rfl, (Below.refl _ _).alloc (Nat.le_refl _) _⟩
/-- The name and the code of class j. -/
def nameOf (j : Nat) : ByteArray := match j with | 0 => sEOF | 1 => sIdent | 2 => sInt | 3 => sFloat | 4 => sChar | 5 => sString | 6 => sRaw | _ => sComment
def codeOf (j : Nat) : Int := match j with | 0 => -1 | 1 => -2 | 2 => -3 | 3 => -4 | 4 => -5 | 5 => -6 | 6 => -7 | _ => -8
theorem symD_at (j : Nat) (h : j < 8) : symD.atKey (kl (nameOf j)) (el 0) = el (codeOf j) ∧ Maps.has symD (kl (nameOf j)) = true := by
  match j, h with
  | 0, _ | 1, _ | 2, _ | 3, _ | 4, _ | 5, _ | 6, _ | 7, _ => exact ⟨by rfl, by rfl⟩
theorem name_size (j : Nat) (h : j < 8) : (nameOf j).size ≤ maxLen := by
  match j, h with
  | 0, _ | 1, _ | 2, _ | 3, _ | 4, _ | 5, _ | 6, _ | 7, _ => decide
theorem len_run {W : World} {b n : Nat} (ty : TypeId) (h : SM W b n symD) : (Builtin.len_ #[40] ty #[.map (some b)]).run Tryf.prog W = .ok (.int .i64 8) W := by
  have := World.ownsMap.len h Tryf.underlying40 ty
  rw [symD_size] at this
  exact this
theorem el_inj {D : DataW Unit} {k : Lit} {c c' : Int} (h : D.atKey k (el 0) = el c) (h' : D.atKey k (.lit (.int .i64 0)) = .lit (.int .i64 c')) : c = c' := by
  have := h.symm.trans h'
  unfold el at this
  injection this with this
  injection this
theorem kl_inj {s s' : ByteArray} (h : kl s = kl s') : s = s' := by
  unfold kl at h
  injection h with h
  cases s; cases s'
  simp at h
  subst h
  rfl
theorem toList_neC {a : ByteArray} {l : List UInt8} (h : a ≠ ⟨l.toArray⟩) : (a.toList == l) = false := by
  rw [ByteArray.toList_eq]
  have : ¬ a.data.toList = l := fun e => h (kl_inj (by unfold kl; rw [e]))
  simpa using this
noncomputable def eqB (x y : ByteArray) : Bool := @decide (x = y) (Classical.propDecidable _)
/-- The code of a name; 0 of one that is none of the eight. -/
noncomputable def code (s : ByteArray) : Int := ((List.range 8).find? (fun j => eqB s (nameOf j))).elim 0 codeOf
theorem name_inj {i j : Nat} (hi : i < 8) (hj : j < 8) (h : nameOf i = nameOf j) : i = j := by
  have h1 := congrArg (fun s : ByteArray => s.data.toList) h
  match i, hi with
  | 0, _ | 1, _ | 2, _ | 3, _ | 4, _ | 5, _ | 6, _ | 7, _ =>
    match j, hj with
    | 0, _ | 1, _ | 2, _ | 3, _ | 4, _ | 5, _ | 6, _ | 7, _ => first | rfl | (exfalso; revert h1; decide)
theorem code_name (j : Nat) (h : j < 8) : code (nameOf j) = codeOf j := by
  unfold code
  cases hf : (List.range 8).find? (fun i => eqB (nameOf j) (nameOf i)) with
  | none =>
    have := List.find?_eq_none.1 hf j (List.mem_range.2 h)
    simp [eqB] at this
  | some i =>
    have h1 := List.find?_some hf
    have h2 := List.mem_range.1 (List.mem_of_find?_eq_some hf)
    simp [eqB] at h1
    rw [name_inj h h2 h1]
    rfl
theorem code_other {s : ByteArray} (h : ∀ j, j < 8 → s ≠ nameOf j) : code s = 0 := by
  unfold code
  rw [List.find?_eq_none.2 (fun j hj => by simp [eqB, h j (List.mem_range.1 hj)])]
  rfl
theorem name_cases (s : ByteArray) : (∃ j, j < 8 ∧ s = nameOf j) ∨ (∀ j, j < 8 → s ≠ nameOf j) := by
  by_cases h : ∃ j, j < 8 ∧ s = nameOf j
  · exact .inl h
  · exact .inr (fun j hj e => h ⟨j, hj, e⟩)
theorem symD_none {s : ByteArray} (h : ∀ j, j < 8 → s ≠ nameOf j) : Maps.has symD (kl s) = false := by
  have h0 : s ≠ sEOF := h 0 (by omega)
  have h1 : s ≠ sIdent := h 1 (by omega)
  have h2 : s ≠ sInt := h 2 (by omega)
  have h3 : s ≠ sFloat := h 3 (by omega)
  have h4 : s ≠ sChar := h 4 (by omega)
  have h5 : s ≠ sString := h 5 (by omega)
  have h6 : s ≠ sRaw := h 6 (by omega)
  have h7 : s ≠ sComment := h 7 (by omega)
  unfold symD
  rw [Maps.has_put_other (fun e => h7 (kl_inj e)), Maps.has_put_other (fun e => h6 (kl_inj e)), Maps.has_put_other (fun e => h5 (kl_inj e)), Maps.has_put_other (fun e => h3 (kl_inj e)), Maps.has_put_other (fun e => h2 (kl_inj e)), Maps.has_put_other (fun e => h1 (kl_inj e)), Maps.has_put_other (fun e => h4 (kl_inj e)), Maps.has_put_other (fun e => h0 (kl_inj e))]
  rfl
set_option maxRecDepth 100000 in
theorem ts_any (s : ByteArray) (w : World) : Calls Tryf.prog 8 #[.string s] w fun e w' => e = .returned (.tuple #[.int .i64 (code s), .bool (decide (code s ≠ 0))]) ∧ w = w' := by
  rcases name_cases s with ⟨j, hj, rfl⟩ | h
  · rw [code_name j hj]
    match j, hj with
    | 0, _ =>
      have e0 : ((nameOf 0).toList == [69, 79, 70]) = true := by rw [ByteArray.toList_eq]; rfl
      go_enter Tryf.func8, Tryf.ntmps8
      go_wp2_with fail
      go_ret2
      exact ⟨rfl, rfl⟩
    | 1, _ =>
      have e0 : ((nameOf 1).toList == [69, 79, 70]) = false := by rw [ByteArray.toList_eq]; rfl
      have e1 : ((nameOf 1).toList == [73, 100, 101, 110, 116]) = true := by rw [ByteArray.toList_eq]; rfl
      go_enter Tryf.func8, Tryf.ntmps8
      go_wp2_with fail
      go_ret2
      exact ⟨rfl, rfl⟩
    | 2, _ =>
      have e0 : ((nameOf 2).toList == [69, 79, 70]) = false := by rw [ByteArray.toList_eq]; rfl
      have e1 : ((nameOf 2).toList == [73, 100, 101, 110, 116]) = false := by rw [ByteArray.toList_eq]; rfl
      have e2 : ((nameOf 2).toList == [73, 110, 116]) = true := by rw [ByteArray.toList_eq]; rfl
      go_enter Tryf.func8, Tryf.ntmps8
      go_wp2_with fail
      go_ret2
      exact ⟨rfl, rfl⟩
    | 3, _ =>
      have e0 : ((nameOf 3).toList == [69, 79, 70]) = false := by rw [ByteArray.toList_eq]; rfl
      have e1 : ((nameOf 3).toList == [73, 100, 101, 110, 116]) = false := by rw [ByteArray.toList_eq]; rfl
      have e2 : ((nameOf 3).toList == [73, 110, 116]) = false := by rw [ByteArray.toList_eq]; rfl
      have e3 : ((nameOf 3).toList == [70, 108, 111, 97, 116]) = true := by rw [ByteArray.toList_eq]; rfl
      go_enter Tryf.func8, Tryf.ntmps8
      go_wp2_with fail
      go_ret2
      exact ⟨rfl, rfl⟩
    | 4, _ =>
      have e0 : ((nameOf 4).toList == [69, 79, 70]) = false := by rw [ByteArray.toList_eq]; rfl
      have e1 : ((nameOf 4).toList == [73, 100, 101, 110, 116]) = false := by rw [ByteArray.toList_eq]; rfl
      have e2 : ((nameOf 4).toList == [73, 110, 116]) = false := by rw [ByteArray.toList_eq]; rfl
      have e3 : ((nameOf 4).toList == [70, 108, 111, 97, 116]) = false := by rw [ByteArray.toList_eq]; rfl
      have e4 : ((nameOf 4).toList == [67, 104, 97, 114]) = true := by rw [ByteArray.toList_eq]; rfl
      go_enter Tryf.func8, Tryf.ntmps8
      go_wp2_with fail
      go_ret2
      exact ⟨rfl, rfl⟩
    | 5, _ =>
      have e0 : ((nameOf 5).toList == [69, 79, 70]) = false := by rw [ByteArray.toList_eq]; rfl
      have e1 : ((nameOf 5).toList == [73, 100, 101, 110, 116]) = false := by rw [ByteArray.toList_eq]; rfl
      have e2 : ((nameOf 5).toList == [73, 110, 116]) = false := by rw [ByteArray.toList_eq]; rfl
      have e3 : ((nameOf 5).toList == [70, 108, 111, 97, 116]) = false := by rw [ByteArray.toList_eq]; rfl
      have e4 : ((nameOf 5).toList == [67, 104, 97, 114]) = false := by rw [ByteArray.toList_eq]; rfl
      have e5 : ((nameOf 5).toList == [83, 116, 114, 105, 110, 103]) = true := by rw [ByteArray.toList_eq]; rfl
      go_enter Tryf.func8, Tryf.ntmps8
      go_wp2_with fail
      go_ret2
      exact ⟨rfl, rfl⟩
    | 6, _ =>
      have e0 : ((nameOf 6).toList == [69, 79, 70]) = false := by rw [ByteArray.toList_eq]; rfl
      have e1 : ((nameOf 6).toList == [73, 100, 101, 110, 116]) = false := by rw [ByteArray.toList_eq]; rfl
      have e2 : ((nameOf 6).toList == [73, 110, 116]) = false := by rw [ByteArray.toList_eq]; rfl
      have e3 : ((nameOf 6).toList == [70, 108, 111, 97, 116]) = false := by rw [ByteArray.toList_eq]; rfl
      have e4 : ((nameOf 6).toList == [67, 104, 97, 114]) = false := by rw [ByteArray.toList_eq]; rfl
      have e5 : ((nameOf 6).toList == [83, 116, 114, 105, 110, 103]) = false := by rw [ByteArray.toList_eq]; rfl
      have e6 : ((nameOf 6).toList == [82, 97, 119, 83, 116, 114, 105, 110, 103]) = true := by rw [ByteArray.toList_eq]; rfl
      go_enter Tryf.func8, Tryf.ntmps8
      go_wp2_with fail
      go_ret2
      exact ⟨rfl, rfl⟩
    | 7, _ =>
      have e0 : ((nameOf 7).toList == [69, 79, 70]) = false := by rw [ByteArray.toList_eq]; rfl
      have e1 : ((nameOf 7).toList == [73, 100, 101, 110, 116]) = false := by rw [ByteArray.toList_eq]; rfl
      have e2 : ((nameOf 7).toList == [73, 110, 116]) = false := by rw [ByteArray.toList_eq]; rfl
      have e3 : ((nameOf 7).toList == [70, 108, 111, 97, 116]) = false := by rw [ByteArray.toList_eq]; rfl
      have e4 : ((nameOf 7).toList == [67, 104, 97, 114]) = false := by rw [ByteArray.toList_eq]; rfl
      have e5 : ((nameOf 7).toList == [83, 116, 114, 105, 110, 103]) = false := by rw [ByteArray.toList_eq]; rfl
      have e6 : ((nameOf 7).toList == [82, 97, 119, 83, 116, 114, 105, 110, 103]) = false := by rw [ByteArray.toList_eq]; rfl
      have e7 : ((nameOf 7).toList == [67, 111, 109, 109, 101, 110, 116]) = true := by rw [ByteArray.toList_eq]; rfl
      go_enter Tryf.func8, Tryf.ntmps8
      go_wp2_with fail
      go_ret2
      exact ⟨rfl, rfl⟩
  · rw [code_other h]
    have e0 : (s.toList == [69, 79, 70]) = false := toList_neC (h 0 (by omega))
    have e1 : (s.toList == [73, 100, 101, 110, 116]) = false := toList_neC (h 1 (by omega))
    have e2 : (s.toList == [73, 110, 116]) = false := toList_neC (h 2 (by omega))
    have e3 : (s.toList == [70, 108, 111, 97, 116]) = false := toList_neC (h 3 (by omega))
    have e4 : (s.toList == [67, 104, 97, 114]) = false := toList_neC (h 4 (by omega))
    have e5 : (s.toList == [83, 116, 114, 105, 110, 103]) = false := toList_neC (h 5 (by omega))
    have e6 : (s.toList == [82, 97, 119, 83, 116, 114, 105, 110, 103]) = false := toList_neC (h 6 (by omega))
    have e7 : (s.toList == [67, 111, 109, 109, 101, 110, 116]) = false := toList_neC (h 7 (by omega))
    go_enter Tryf.func8, Tryf.ntmps8
    go_wp2_with fail
    go_ret2
    exact ⟨rfl, rfl⟩
set_option maxRecDepth 100000 in
theorem sc_any (s : ByteArray) (w : World) : Calls Tryf.prog 12 #[.string s] w fun e w' => e = .returned (.int .i64 (code s)) ∧ w = w' := by
  rcases name_cases s with ⟨j, hj, rfl⟩ | h
  · rw [code_name j hj]
    match j, hj with
    | 0, _ =>
      have e0 : ((nameOf 0).toList == [69, 79, 70]) = true := by rw [ByteArray.toList_eq]; rfl
      go_enter Tryf.func12, Tryf.ntmps12
      go_wp2_with fail
      go_ret
      exact ⟨rfl, rfl⟩
    | 1, _ =>
      have e0 : ((nameOf 1).toList == [69, 79, 70]) = false := by rw [ByteArray.toList_eq]; rfl
      have e1 : ((nameOf 1).toList == [73, 100, 101, 110, 116]) = true := by rw [ByteArray.toList_eq]; rfl
      go_enter Tryf.func12, Tryf.ntmps12
      go_wp2_with fail
      go_ret
      exact ⟨rfl, rfl⟩
    | 2, _ =>
      have e0 : ((nameOf 2).toList == [69, 79, 70]) = false := by rw [ByteArray.toList_eq]; rfl
      have e1 : ((nameOf 2).toList == [73, 100, 101, 110, 116]) = false := by rw [ByteArray.toList_eq]; rfl
      have e2 : ((nameOf 2).toList == [73, 110, 116]) = true := by rw [ByteArray.toList_eq]; rfl
      go_enter Tryf.func12, Tryf.ntmps12
      go_wp2_with fail
      go_ret
      exact ⟨rfl, rfl⟩
    | 3, _ =>
      have e0 : ((nameOf 3).toList == [69, 79, 70]) = false := by rw [ByteArray.toList_eq]; rfl
      have e1 : ((nameOf 3).toList == [73, 100, 101, 110, 116]) = false := by rw [ByteArray.toList_eq]; rfl
      have e2 : ((nameOf 3).toList == [73, 110, 116]) = false := by rw [ByteArray.toList_eq]; rfl
      have e3 : ((nameOf 3).toList == [70, 108, 111, 97, 116]) = true := by rw [ByteArray.toList_eq]; rfl
      go_enter Tryf.func12, Tryf.ntmps12
      go_wp2_with fail
      go_ret
      exact ⟨rfl, rfl⟩
    | 4, _ =>
      have e0 : ((nameOf 4).toList == [69, 79, 70]) = false := by rw [ByteArray.toList_eq]; rfl
      have e1 : ((nameOf 4).toList == [73, 100, 101, 110, 116]) = false := by rw [ByteArray.toList_eq]; rfl
      have e2 : ((nameOf 4).toList == [73, 110, 116]) = false := by rw [ByteArray.toList_eq]; rfl
      have e3 : ((nameOf 4).toList == [70, 108, 111, 97, 116]) = false := by rw [ByteArray.toList_eq]; rfl
      have e4 : ((nameOf 4).toList == [67, 104, 97, 114]) = true := by rw [ByteArray.toList_eq]; rfl
      go_enter Tryf.func12, Tryf.ntmps12
      go_wp2_with fail
      go_ret
      exact ⟨rfl, rfl⟩
    | 5, _ =>
      have e0 : ((nameOf 5).toList == [69, 79, 70]) = false := by rw [ByteArray.toList_eq]; rfl
      have e1 : ((nameOf 5).toList == [73, 100, 101, 110, 116]) = false := by rw [ByteArray.toList_eq]; rfl
      have e2 : ((nameOf 5).toList == [73, 110, 116]) = false := by rw [ByteArray.toList_eq]; rfl
      have e3 : ((nameOf 5).toList == [70, 108, 111, 97, 116]) = false := by rw [ByteArray.toList_eq]; rfl
      have e4 : ((nameOf 5).toList == [67, 104, 97, 114]) = false := by rw [ByteArray.toList_eq]; rfl
      have e5 : ((nameOf 5).toList == [83, 116, 114, 105, 110, 103]) = true := by rw [ByteArray.toList_eq]; rfl
      go_enter Tryf.func12, Tryf.ntmps12
      go_wp2_with fail
      go_ret
      exact ⟨rfl, rfl⟩
    | 6, _ =>
      have e0 : ((nameOf 6).toList == [69, 79, 70]) = false := by rw [ByteArray.toList_eq]; rfl
      have e1 : ((nameOf 6).toList == [73, 100, 101, 110, 116]) = false := by rw [ByteArray.toList_eq]; rfl
      have e2 : ((nameOf 6).toList == [73, 110, 116]) = false := by rw [ByteArray.toList_eq]; rfl
      have e3 : ((nameOf 6).toList == [70, 108, 111, 97, 116]) = false := by rw [ByteArray.toList_eq]; rfl
      have e4 : ((nameOf 6).toList == [67, 104, 97, 114]) = false := by rw [ByteArray.toList_eq]; rfl
      have e5 : ((nameOf 6).toList == [83, 116, 114, 105, 110, 103]) = false := by rw [ByteArray.toList_eq]; rfl
      have e6 : ((nameOf 6).toList == [82, 97, 119, 83, 116, 114, 105, 110, 103]) = true := by rw [ByteArray.toList_eq]; rfl
      go_enter Tryf.func12, Tryf.ntmps12
      go_wp2_with fail
      go_ret
      exact ⟨rfl, rfl⟩
    | 7, _ =>
      have e0 : ((nameOf 7).toList == [69, 79, 70]) = false := by rw [ByteArray.toList_eq]; rfl
      have e1 : ((nameOf 7).toList == [73, 100, 101, 110, 116]) = false := by rw [ByteArray.toList_eq]; rfl
      have e2 : ((nameOf 7).toList == [73, 110, 116]) = false := by rw [ByteArray.toList_eq]; rfl
      have e3 : ((nameOf 7).toList == [70, 108, 111, 97, 116]) = false := by rw [ByteArray.toList_eq]; rfl
      have e4 : ((nameOf 7).toList == [67, 104, 97, 114]) = false := by rw [ByteArray.toList_eq]; rfl
      have e5 : ((nameOf 7).toList == [83, 116, 114, 105, 110, 103]) = false := by rw [ByteArray.toList_eq]; rfl
      have e6 : ((nameOf 7).toList == [82, 97, 119, 83, 116, 114, 105, 110, 103]) = false := by rw [ByteArray.toList_eq]; rfl
      have e7 : ((nameOf 7).toList == [67, 111, 109, 109, 101, 110, 116]) = true := by rw [ByteArray.toList_eq]; rfl
      go_enter Tryf.func12, Tryf.ntmps12
      go_wp2_with fail
      go_ret
      exact ⟨rfl, rfl⟩
  · rw [code_other h]
    have e0 : (s.toList == [69, 79, 70]) = false := toList_neC (h 0 (by omega))
    have e1 : (s.toList == [73, 100, 101, 110, 116]) = false := toList_neC (h 1 (by omega))
    have e2 : (s.toList == [73, 110, 116]) = false := toList_neC (h 2 (by omega))
    have e3 : (s.toList == [70, 108, 111, 97, 116]) = false := toList_neC (h 3 (by omega))
    have e4 : (s.toList == [67, 104, 97, 114]) = false := toList_neC (h 4 (by omega))
    have e5 : (s.toList == [83, 116, 114, 105, 110, 103]) = false := toList_neC (h 5 (by omega))
    have e6 : (s.toList == [82, 97, 119, 83, 116, 114, 105, 110, 103]) = false := toList_neC (h 6 (by omega))
    have e7 : (s.toList == [67, 111, 109, 109, 101, 110, 116]) = false := toList_neC (h 7 (by omega))
    go_enter Tryf.func12, Tryf.ntmps12
    go_wp2_with fail
    go_ret
    exact ⟨rfl, rfl⟩
end Go.Proofs.YtidennjnaihfbaaFmt
