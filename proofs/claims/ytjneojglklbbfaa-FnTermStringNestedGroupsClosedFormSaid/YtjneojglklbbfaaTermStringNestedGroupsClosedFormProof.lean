/-
  The frame of the proof of Rows.FnTermStringNestedGroupsClosedFormSaid: for every input the law returns true and its arguments read as before. Conditions: none beyond the statement's own. Printed by a program of this prover's own (mkproof.py); the walk stands in YtjneojglklbbfaaD7.
-/
import Derived.Test.YtjneojglklbbfaaD7
import Derived.WalkKit
import Derived.ProofKit
import Derived.OpenShut
import Derived.ShutString
import Derived.ChangeOld
import Derived.Below
import Derived.SliceStrings
import Derived.Lib.SmallJoins
import Derived.Test.YtjneojglklbbfaaFacts
namespace Go.Proofs.Ytjneojglklbbfaa.fnTermStringNestedGroupsClosedForm
open Go.ChangeShapes Go.WideShapes Go.ChangeAt Go.RowKit
open Go.ChangeMaps (open_string shut_string)
set_option linter.unusedVariables false

theorem own : ownKnob Try.prog.godebug = none := by kernel_rfl
theorem laidOut : laidOutB Try.prog = true := by kernel_rfl

set_option maxRecDepth 100000 in
theorem lifted (os : Os) (started : os.Started) (H : Type) (enc : TypeId × Value → H) :
    ReturnsInHanded {} Try.checked os 7 .any (Rows.fnTermStringNestedGroupsClosedFormSpec.pre6 enc Try.prog Try.f7 Rows.fnTermStringNestedGroupsClosedFormRow.domain false) (Rows.fnTermStringNestedGroupsClosedFormSpec.post enc Try.prog Try.f7 false true false false) := by
  refine returnsInHanded_of_change (C := Try.checked) own started (by kernel_rfl) Try.func7
    (ChangeSpec.witness6 (enc := enc) (C := Try.checked) false ⟨#[], #[.agg #[.int .u8 0, .string ByteArray.empty, .int .u8 0], .int .i64 0, .slice none 0 0], []⟩ 8 (by kernel_rfl) (by kernel_rfl) (by kernel_rfl) (by kernel_rfl)) ?_
  intro W base args ds gs before hval0 hW hcnd _
  have hval : ∀ (j : Nat) t v, Try.f7.params[j]? = some t → args[j]? = some v → Value.okWide Try.prog W .any base t v := hval0
  have hW' := hW
  obtain ⟨p, q, hA0, hV, rfl, hfz, hnd⟩ := hW
  have hA : DataW.TrodAll enc Try.prog W 0 (fun _ => true) true Try.f7.params.toList args.toList ds p := hA0
  rw [Try.params7] at hA hval
  obtain ⟨v0, vs0, d0, ds0, p0, q0, hargs, rfl, rfl, h0, r0⟩ := trodAll_cons hA
  obtain ⟨v1, vs1, d1, ds1, p1, q1, rfl, rfl, rfl, h1, r1⟩ := trodAll_cons r0
  obtain ⟨v2, vs2, d2, ds2, p2, q2, rfl, rfl, rfl, h2, r2⟩ := trodAll_cons r1
  obtain ⟨rfl, rfl, rfl⟩ := trodAll_nil r2
  obtain rfl : args = #[v0, v1, v2] := by cases args; simp_all
  obtain ⟨rfl, rfl⟩ := trodVars_none hV
  have k0 := h0
  have lt0 : ∀ x ∈ p0, x.block < W.heap.size := by obtain ⟨m, hm⟩ := k0; exact DataW.trod_lt m _ _ _ hm
  obtain ⟨c0a, c0b, c0c, y0a, y0b, y0c, m0, rfl, rfl, rfl, hy0a, hy0b, hy0c⟩ := Joins.open_agg3 Try.underlying58 (by kernel_rfl) (by kernel_rfl) (hval 0 58 v0 rfl rfl) h0
  obtain ⟨a0a, e0a, rfl, w0a⟩ := DataW.trod_int Try.underlying5 hy0a
  simp only [List.cons.injEq, and_true] at e0a
  subst e0a
  obtain ⟨a0b, e0b, rfl, w0b⟩ := DataW.trod_string Try.underlying9 hy0b
  simp only [List.cons.injEq, and_true] at e0b
  subst e0b
  obtain ⟨a0c, e0c, rfl, w0c⟩ := DataW.trod_int Try.underlying5 hy0c
  simp only [List.cons.injEq, and_true] at e0c
  subst e0c
  obtain ⟨a1, rfl, rfl, rfl, w1⟩ := open_int Try.underlying3 (hval 1 3 v1 rfl rfl) h1
  obtain ⟨a2, len2, cap2, rfl⟩ := okWide_slice Try.underlying45 (hval 2 45 v2 rfl rfl)
  have k2 := h2
  have lt2 : ∀ x ∈ p2, x.block < W.heap.size := by obtain ⟨m, hm⟩ := k2; exact DataW.trod_lt m _ _ _ hm
  obtain ⟨z2, w2⟩ : ∃ zs, Ints .u8 W a2 len2 zs := isInts_of Try.underlying45 Try.underlying5 (by kernel_rfl) h2
  clear hA0 hval0
  refine (walk a0a a0b a0c a1 a2 len2 cap2 z2 W w0a w0b w0c w1 w2).mono fun e W' ⟨he, bel⟩ => ?_
  subst he
  exact ⟨_, rfl, _, _, _, [], _, [], hW', trodAll_mk1 (shut_bool Try.underlying4 _), (trodAll_cons_mk (Below.trod laidOut (by kernel_rfl) (of_decide_eq_true (by kernel_rfl)) k0 bel lt0) (trodAll_cons_mk (shut_int Try.underlying3 w1) (trodAll_cons_mk (Below.trod laidOut (by kernel_rfl) (of_decide_eq_true (by kernel_rfl)) k2 bel lt2) trodAll_mk0))), rfl, bel.frame _, fun h => by cases h⟩

theorem closed : joinedFacts Try.prog 7 Try.f7 Rows.fnTermStringNestedGroupsClosedFormSpec Rows.fnTermStringNestedGroupsClosedFormRow = true := by
  simp only [joinedFacts, Bool.and_eq_true]
  repeat' apply And.intro
  all_goals first | with_reducible exact factMay | (rw [factLift]; rfl) | (rw [factMake]; rfl) | (as_aux_lemma => kernel_rfl)

theorem over : Rows.fnTermStringNestedGroupsClosedFormRow.holds Try.pinned (OpenSpec.ofChange Rows.fnTermStringNestedGroupsClosedFormSpec) :=
  OpenClaim.holds_of_wide 7 Try.f7 rfl rfl rfl rfl rfl rfl rfl ⟨rfl, rfl, rfl, rfl, rfl⟩ rfl rfl rfl rfl rfl (by kernel_rfl) Try.func7 closed
    (of_decide_eq_true (by kernel_rfl)) (by unfold Func.isWrapper; first | (rw [if_pos (by decide +kernel)]; kernel_rfl) | (rw [if_neg (by decide +kernel)]; exact ⟨rfl, rfl⟩))
    (fun os started H enc _ => lifted os started H enc)

theorem proved : Rows.FnTermStringNestedGroupsClosedFormSaid := over
#print axioms proved
end Go.Proofs.Ytjneojglklbbfaa.fnTermStringNestedGroupsClosedForm
