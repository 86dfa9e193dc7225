/-
  The walk of FnTextScannerSymbolsTable: the eight symbols, a fresh map a call. Conditions: none.
-/
import Derived.Test.YtdannljlkpgfdaaRows
import Derived.Test.YtdannljlkpgfdaaKit
import Derived.WalkKit
import Derived.WalkSpells
import Derived.WalkLawsBesides
import Derived.Outline
import Derived.Deep.QuietTactic
import Derived.BigQuiet
import Derived.Deep.LoopGhost
import Derived.Maps.OwnSet
import Derived.StringKeys
namespace Go.Proofs.Ytdannljlkpgfdaa
open Go.RowKit
set_option linter.unusedSimpArgs false
set_option linter.unusedVariables false
/-- 'm[k] = v' of a composite literal, at the operation. -/
theorem wpList_insert_in {P : Program} (w : World) {ops : Array Oper} {rest : List Oper} {o : Oper} {a : Act} {Q : Exit → Act → World → Prop} (hg : o.guard = none) (m x v : Operand) (t : TypeId) (hop : o.op = Op.insert t m x v)
    (k e : TypeId) (K : Maps.Keyed P k) (ht : P.underlying t = some (.map k e)) (R : Value → Option (DataW Unit × List MemPlace)) (b n : Nat) (D : DataW Unit)
    (hm : a.eval m = .map (some b)) (hown : w.ownsMap P k R b n D) (hn : n < maxLen) (key val : Value) (kl : Lit) (hx : a.eval x = key) (hv : a.eval v = val) (hkey : keyOf P k key = some kl)
    (d : DataW Unit) (ps : List MemPlace) (hval : R val = some (d, ps))
    (hK : ∀ w', w'.ownsMap P k R b (n + 1) (D.put kl d) → w.mapTurned w' b → wpList P ops Q rest (a.put o.dst undef) w') :
    wpList P ops Q (o :: rest) a w := by
  refine wpList_plain hg fun K' hK' => ?_
  obtain ⟨w', hrun, r1, r2⟩ := hown.store K ht hn hkey hval
  unfold Oper.wp
  simp [execOp, hop, hm, hx, hv, hrun, Result.andThen]
  exact hK' _ _ (hK w' r1 r2)
theorem makeMap_none {P : Program} (t k e : TypeId) (ht : P.underlying t = some (.map k e)) (w : World) : (Instr.makeMap t none).run P w = .ok (.map (some w.heap.size)) (w.alloc (.map #[] 0)) := by
  simp [Instr.makeMap, run_underlying ht]
def sEOF : ByteArray := ⟨#[69, 79, 70]⟩
def sChar : ByteArray := ⟨#[67, 104, 97, 114]⟩
def sIdent : ByteArray := ⟨#[73, 100, 101, 110, 116]⟩
def sInt : ByteArray := ⟨#[73, 110, 116]⟩
def sFloat : ByteArray := ⟨#[70, 108, 111, 97, 116]⟩
def sString : ByteArray := ⟨#[83, 116, 114, 105, 110, 103]⟩
def sRaw : ByteArray := ⟨#[82, 97, 119, 83, 116, 114, 105, 110, 103]⟩
def sComment : ByteArray := ⟨#[67, 111, 109, 109, 101, 110, 116]⟩
def kl (s : ByteArray) : Lit := .string s.data.toList
def el (n : Int) : DataW Unit := .lit (.int .i64 n)
/-- What Symbols hands back. -/
def symD : DataW Unit := ((((((((DataW.map []).put (kl sEOF) (el (-1))).put (kl sChar) (el (-5))).put (kl sIdent) (el (-2))).put (kl sInt) (el (-3))).put (kl sFloat) (el (-4))).put (kl sString) (el (-6))).put (kl sRaw) (el (-7))).put (kl sComment) (el (-8))
theorem symD_size : Maps.size symD = 8 := by decide +kernel
theorem strK : Maps.Keyed Try.prog 9 := Maps.string_keyed Try.underlying9
theorem keyS (s : ByteArray) (h : s.size ≤ maxLen) : keyOf Try.prog 9 (.string s) = some (kl s) := WideMaps.keyOf_string_mk Try.underlying9 h
theorem valI (n : Int) (h : (Lit.int .i64 n).wf = true) : plainElem (H := Unit) Try.prog 29 (.int .i64 n) = some (el n, []) := plainElem_int Try.underlying29 h
theorem zeroT (w : World) : (zeroValue 29).run Try.prog w = .ok (.int .i64 0) w := by kernel_rfl
/-- Block b is a map from names to codes that reads as D. -/
def SM (w : World) (b n : Nat) (D : DataW Unit) : Prop := w.ownsMap Try.prog 9 (plainElem Try.prog 29) b n D
theorem turned_below {w w' : World} {b B : Nat} (h : w.mapTurned w' b) (hb : B ≤ b) {w0 : World} (h0 : Below B w0 w) (hB : B ≤ w.heap.size) : Below B w0 w' := h0.grown h.grown hB (fun k e => by injection e with e; omega)
set_option maxHeartbeats 2000000 in
set_option maxRecDepth 100000 in
theorem symbols_any (p : Nat) (w : World) : Calls Try.prog 6 #[.pointer (some ⟨p, 0, none⟩)] w fun e w' => e = .returned (.map (some w.heap.size)) ∧ SM w' w.heap.size 8 symD ∧ Below w.heap.size w w' := by
  have h0 : SM (w.alloc (.map #[] 0)) w.heap.size 0 (.map []) := World.ownsMap_made w _ _ _
  have hb0 : Below w.heap.size w (w.alloc (.map #[] 0)) := (Below.refl _ _).alloc (Nat.le_refl _) _
  unfold SM at h0
  have hmk := fun W => makeMap_none (P := Try.prog) 27 9 29 Try.underlying27 W
  go_enter Try.func6, Try.ntmps6
  go_wp2_with (
    refine wpList_insert_in _ rfl _ _ _ 27 rfl 9 29 strK Try.underlying27 _ w.heap.size _ _ rfl (by assumption) (by decide) _ _ _ rfl rfl (keyS _ (by decide)) _ _ (valI _ (by decide)) ?_
    intro w' hown' hturn'
    have hb' := turned_below hturn' (Nat.le_refl _) (by assumption : Below w.heap.size w _) (Nat.le_of_lt (World.ownsMap.lt (by assumption)))
    clear hturn')
  go_ret
  exact ⟨rfl, by assumption, by assumption⟩
set_option maxRecDepth 100000 in
theorem asT_any (p : Nat) (w : World) : Calls Try.prog 4 #[.iface 22 (.pointer (some ⟨p, 0, none⟩))] w fun e w' => e = .returned (.pointer (some ⟨p, 0, none⟩)) ∧ w = w' := by
  have ha : ∀ (v : Value) (W : World), (Instr.typeAssert (.iface 22 v) 25 22 true).run Try.prog W = .ok (.tuple #[v, .bool true]) W := by intro v W; kernel_rfl
  go_enter Try.func4, Try.ntmps4
  go_wp2_with fail
  go_ret
  exact ⟨rfl, rfl⟩
set_option maxRecDepth 100000 in
theorem new_any (w : World) : Calls Try.prog 5 #[.nilFunc] w fun e w' => ∃ p, e = .returned (.iface 22 (.pointer (some ⟨p, 0, none⟩))) ∧ Below w.heap.size w w' := by
  go_enter Try.func5, Try.ntmps5
  go_wp2_with fail
  go_ret
  exact ⟨_, rfl, (Below.refl _ _).alloc (Nat.le_refl _) _⟩
/-- The name and the code of class j. -/
def nameOf (j : Nat) : ByteArray := match j with | 0 => sEOF | 1 => sIdent | 2 => sInt | 3 => sFloat | 4 => sChar | 5 => sString | 6 => sRaw | _ => sComment
def codeOf (j : Nat) : Int := match j with | 0 => -1 | 1 => -2 | 2 => -3 | 3 => -4 | 4 => -5 | 5 => -6 | 6 => -7 | _ => -8
set_option maxRecDepth 100000 in
theorem sym_any (j : Nat) (w : World) (h : j < 8) : Calls Try.prog 7 #[.int .i64 j] w fun e w' => e = .returned (.tuple #[.string (nameOf j), .int .i64 (codeOf j)]) ∧ w = w' := by
  match j, h with
  | 0, _ | 1, _ | 2, _ | 3, _ | 4, _ | 5, _ | 6, _ | 7, _ =>
    go_enter Try.func7, Try.ntmps7
    go_wp2_with fail
    go_ret2
    exact ⟨rfl, rfl⟩
theorem symD_at (j : Nat) (h : j < 8) : symD.atKey (kl (nameOf j)) (el 0) = el (codeOf j) ∧ Maps.has symD (kl (nameOf j)) = true := by
  match j, h with
  | 0, _ | 1, _ | 2, _ | 3, _ | 4, _ | 5, _ | 6, _ | 7, _ => exact ⟨by rfl, by rfl⟩
theorem name_size (j : Nat) (h : j < 8) : (nameOf j).size ≤ maxLen := by
  match j, h with
  | 0, _ | 1, _ | 2, _ | 3, _ | 4, _ | 5, _ | 6, _ | 7, _ => decide
theorem len_run {W : World} {b n : Nat} (ty : TypeId) (h : SM W b n symD) : (Builtin.len_ #[27] ty #[.map (some b)]).run Try.prog W = .ok (.int .i64 8) W := by
  have := World.ownsMap.len h Try.underlying27 ty
  rw [symD_size] at this
  exact this
theorem el_inj {D : DataW Unit} {k : Lit} {c c' : Int} (h : D.atKey k (el 0) = el c) (h' : D.atKey k (.lit (.int .i64 0)) = .lit (.int .i64 c')) : c = c' := by
  have := h.symm.trans h'
  unfold el at this
  injection this with this
  injection this
namespace fnTextScannerSymbolsTable
set_option maxHeartbeats 2000000 in
set_option maxRecDepth 100000 in
theorem walk (w : World) : Calls Try.prog 3 #[] w fun e w' => e = .returned (.bool true) ∧ Below w.heap.size w w' := by
  go_enter Try.func3, Try.ntmps3
  go_wp2_with fail
  refine (new_any w).mono ?_
  rintro e w1 ⟨p, rfl, hb1⟩
  go_wp2_with fail
  refine (asT_any p w1).mono ?_
  rintro e w2 ⟨rfl, rfl⟩
  go_wp2_with fail
  refine (symbols_any p _).mono ?_
  rintro e w2 ⟨rfl, hm, hb2⟩
  have hbw2 := below_next hb2 hb1
  have hle : w.heap.size ≤ w1.heap.size := hb1.size
  obtain ⟨b, hbd⟩ : ∃ x, x = w1.heap.size := ⟨_, rfl⟩
  rw [← hbd] at hm hle
  have hlen : ∀ W, SM W b 8 symD → (Builtin.len_ #[27] 3 #[.map (some b)]).run Try.prog W = .ok (.int .i64 8) W := fun W h => by
    have := World.ownsMap.len h Try.underlying27 3
    rw [symD_size] at this
    exact this
  have hl1 := hlen _ hm
  rw [← hbd]
  clear hbd hb1 hb2
  go_wp2_with (at_len; refine wpList_len_own _ rfl _ 27 rfl 9 29 Try.underlying27 _ b 8 symD rfl hm ?_; rw [symD_size])
  clear hl1 hlen
  go_loopg [3] 8 (fun k i wr => ∃ j : Nat, k = 8 - j ∧ j ≤ 8 ∧ i = .int .i64 j ∧ wr = w2)
  case atStart => exact ⟨0, rfl, Nat.zero_le _, rfl, rfl⟩
  case round =>
    obtain ⟨j, hk, hj, rfl, rfl⟩ := hrel
    have KK := Lib.hid hk; clear hk
    by_cases hlt : j < 8
    · have CS := Lib.hid (sym_any j wr hlt)
      obtain ⟨q1, q2⟩ := symD_at j hlt
      have Q1 := Lib.hid q1
      have HK := Lib.hid (keyS (nameOf j) (name_size j hlt))
      clear q1
      generalize kl (nameOf j) = kj at Q1 q2 HK
      generalize nameOf j = nj at CS HK
      generalize codeOf j = cj at CS Q1
      have Q2 := Lib.hid q2
      clear q2
      have hlt' : (j : Int) < 8 := by omega
      go_wp2_with fail
      refine CS.out.mono ?_
      rintro e w5 ⟨rfl, rfl⟩
      go_wp2_with (at_lookup; refine wpList_lookup_own_ok_int _ rfl _ _ 27 rfl 9 29 .i64 strK Try.underlying27 Try.underlying29 (zeroT _) b 8 symD rfl hm _ _ rfl HK.out ?_; intro cc hat hwc; obtain rfl := el_inj Q1.out hat; rw [Q2.out]; clear hat hwc)
      go_roundg (8 - (j + 1))
      case measure => rw [KK.out]; omega
      case rel => exact ⟨j + 1, rfl, by omega, by go_num, rfl⟩
    · obtain rfl : j = 8 := by omega
      clear hlt KK
      go_wp2_with (at_mapUpdate; refine wpList_mapUpdate_in _ rfl _ _ _ 27 rfl 9 29 strK Try.underlying27 _ b 8 symD rfl hm (by decide) _ _ _ rfl rfl (keyS _ (by decide)) _ _ (valI _ (by decide)) ?_; intro w6 hown6 hturn6)
      have hb6 : Below w.heap.size w w6 := turned_below hturn6 hle hbw2 hbw2.size
      clear hown6 hturn6
      refine (symbols_any p _).mono ?_
      rintro e w7 ⟨rfl, hm7, hb7⟩
      have hbw7 := below_next hb7 hb6
      obtain ⟨b7, hbd7⟩ : ∃ x, x = w6.heap.size := ⟨_, rfl⟩
      rw [← hbd7] at hm7 ⊢
      clear hbd7 hb7 hb6
      have hlk := World.ownsMap.lookup_int hm7 strK Try.underlying27 Try.underlying29 (zeroT _) (keyS sEOF (by decide))
      obtain ⟨c, hrun, hat, hwc⟩ := hlk
      have hc1 : codeOf 0 = c := el_inj (symD_at 0 (by omega)).1 hat
      obtain rfl : (-1 : Int) = c := hc1
      unfold sEOF at hrun
      clear hat hwc
      have hl7 := len_run 3 hm7
      go_wp2_with fail
      go_ret
      exact ⟨rfl, hbw7⟩
end fnTextScannerSymbolsTable
end Go.Proofs.Ytdannljlkpgfdaa
