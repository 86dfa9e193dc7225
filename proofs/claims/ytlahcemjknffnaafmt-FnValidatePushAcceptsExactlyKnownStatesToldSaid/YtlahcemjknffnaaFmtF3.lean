/-
  The walk of FnValidatePushAcceptsExactlyKnownStates. Conditions: F answers the tape.
-/
import Derived.Test.YtlahcemjknffnaaFmtF2
namespace Go.Proofs.YtlahcemjknffnaaFmt
open Go.RowKit Go.Extern.Stop Go.Stop Go.Extern
set_option linter.unusedSimpArgs false
set_option linter.unusedVariables false
namespace fnValidatePush
theorem heap_new' (W : World) (o : Obj) (b : Nat) (h : b = W.heap.size) : (W.alloc o).heap[b]? = some o := by subst h; exact heap_alloc_new W o
/-- What validate answers: nil or an error. -/
def ErrIff (ok : Bool) (v : Value) : Prop := (ok = true ∧ v = .nilIface) ∨ (ok = false ∧ ∃ p, v = .iface 58 (.pointer (some ⟨p, 0, none⟩)))
set_option maxRecDepth 100000 in
theorem val_any (F : Interp) (s : ByteArray) (b n : Nat) (D : DataW Unit) (w : World) (hF : F.answers w.tape) (hown : w.ownsMap Tryf.prog 9 R0 b n D) (hs : s.size ≤ maxLen) :
    Calls Tryf.prog 13 #[.agg #[.string s], .map (some b)] w fun e w' => ∃ v, e = .returned v ∧ ErrIff (Maps.has D (kl s)) v ∧ Below w.heap.size w w' := by
  have hown2 : (w.alloc (.cells #[.string s] 48)).ownsMap Tryf.prog 9 R0 b n D := hown.alloc _
  have hE := Lib.hid (errorf_any F s)
  have hb2 : Below w.heap.size w (w.alloc (.cells #[.string s] 48)) := (Below.refl _ _).alloc (Nat.le_refl _) _
  cases hk : Maps.has D (kl s) with
  | true =>
    have HK := Lib.hid hk; clear hk
    go_enter Tryf.func13, Tryf.ntmps13
    go_wp2_with (at_lookup; refine wpList_lookup_own_ok _ rfl _ _ 26 rfl 9 27 strK Tryf.underlying26 R0 (zeroR _) .nil [] rfl b n D rfl hown2 _ _ rfl (keyS s hs) ?_; intro v ps hv; rw [HK.out]; clear hv)
    go_ret
    exact ⟨_, rfl, .inl ⟨rfl, rfl⟩, hb2⟩
  | false =>
    have HK := Lib.hid hk; clear hk
    go_enter Tryf.func13, Tryf.ntmps13
    go_wp2_with (at_lookup; refine wpList_lookup_own_ok _ rfl _ _ 26 rfl 9 27 strK Tryf.underlying26 R0 (zeroR _) .nil [] rfl b n D rfl hown2 _ _ rfl (keyS s hs) ?_; intro v ps hv; rw [HK.out]; clear hv)
    refine (hE.out _ _ (by exact hF) (by exact (cell_new' _ _ _ _ 0 (by simp)).trans rfl) (by exact heap_new' _ _ _ (by simp))).mono ?_
    rintro e w' ⟨p, rfl, hb⟩
    go_wp2_with fail
    go_ret
    exact ⟨_, rfl, .inr ⟨rfl, p, rfl⟩, below_next hb (hb2.alloc (by simp) _)⟩
set_option maxRecDepth 100000 in
theorem val_nil (F : Interp) (s : ByteArray) (w : World) (hF : F.answers w.tape) (hs : s.size ≤ maxLen) :
    Calls Tryf.prog 13 #[.agg #[.string s], .map none] w fun e w' => ∃ v, e = .returned v ∧ ErrIff false v ∧ Below w.heap.size w w' := by
  have hE := Lib.hid (errorf_any F s)
  have hb2 : Below w.heap.size w (w.alloc (.cells #[.string s] 48)) := (Below.refl _ _).alloc (Nat.le_refl _) _
  have hlk := fun W => Maps.look_nil (P := Tryf.prog) (t := 26) (e := 27) (w := W) true strK Tryf.underlying26 (zeroR _) (keyS s hs)
  simp only [if_true] at hlk
  go_enter Tryf.func13, Tryf.ntmps13
  go_wp2_with fail
  refine (hE.out _ _ (by exact hF) (by exact (cell_new' _ _ _ _ 0 (by simp)).trans rfl) (by exact heap_new' _ _ _ (by simp))).mono ?_
  rintro e w' ⟨p, rfl, hb⟩
  go_wp2_with fail
  go_ret
  exact ⟨_, rfl, .inr ⟨rfl, p, rfl⟩, below_next hb (hb2.alloc (by simp) _)⟩
set_option maxRecDepth 100000 in
theorem zv_any (F : Interp) (s : ByteArray) (b n : Nat) (D : DataW Unit) (w : World) (hF : F.answers w.tape) (hown : w.ownsMap Tryf.prog 9 R0 b n D) (hs : s.size ≤ maxLen) :
    Calls Tryf.prog 7 #[.string s, .map (some b)] w fun e w' => ∃ v, e = .returned v ∧ ErrIff (Maps.has D (kl s)) v ∧ Below w.heap.size w w' := by
  have hV := Lib.hid (val_any F s b n D w hF hown hs)
  go_enter Tryf.func7, Tryf.ntmps7
  go_wp2_with fail
  refine hV.out.mono ?_
  rintro e w' ⟨v, rfl, hv, hb⟩
  go_wp2_with fail
  go_ret
  exact ⟨_, rfl, hv, hb⟩
set_option maxRecDepth 100000 in
theorem zv_nil (F : Interp) (s : ByteArray) (w : World) (hF : F.answers w.tape) (hs : s.size ≤ maxLen) :
    Calls Tryf.prog 7 #[.string s, .map none] w fun e w' => ∃ v, e = .returned v ∧ ErrIff false v ∧ Below w.heap.size w w' := by
  have hV := Lib.hid (val_nil F s w hF hs)
  go_enter Tryf.func7, Tryf.ntmps7
  go_wp2_with fail
  refine hV.out.mono ?_
  rintro e w' ⟨v, rfl, hv, hb⟩
  go_wp2_with fail
  go_ret
  exact ⟨_, rfl, hv, hb⟩
end fnValidatePush
end Go.Proofs.YtlahcemjknffnaaFmt
