/-
  The walk of FnMakeCheckpointExact: behind k calls of Next the checkpoint holds the model's cursors. Conditions: none beyond the statement's own.
-/
import Derived.Test.YtomfonilbenhbaaN9A
import Derived.Test.YtomfonilbenhbaaN9C
namespace Go.Proofs.Ytomfonilbenhbaa
open Go.RowKit
set_option linter.unusedSimpArgs false

theorem heldCp {w0 w' : World} {pb tb mb cb c nm : Nat} {L : List Tok} {S : Int → Bool} {raw next cur r n q : Int} (h : Lx w' pb tb mb c nm L S raw next cur) (hc : Blk w' cb 49 #[.int .i64 r, .int .i64 n, .int .i64 q]) (hb : Below w0.heap.size w0 w') :
    Lx w' pb tb mb c nm L S raw next cur ∧ Blk w' cb 49 #[.int .i64 r, .int .i64 n, .int .i64 q] ∧ Below w0.heap.size w0 w' ∧ w'.cell? ⟨cb, 0, none⟩ = some (.int .i64 r) ∧ w'.cell? ⟨cb, 1, none⟩ = some (.int .i64 n) ∧ w'.cell? ⟨cb, 2, none⟩ = some (.int .i64 q) :=
  ⟨h, hc, hb, hc.cell 0, hc.cell 1, hc.cell 2⟩

namespace fnMakeCheckpointExact
set_option maxHeartbeats 1000000 in
set_option maxRecDepth 100000 in
theorem walk (A0 : Option Addr) (n0 c0 : Nat) (z0 : List Int) (A1 : Option Addr) (n1 c1 : Nat) (z1 : List ByteArray) (A2 : Option Addr) (n2 c2 : Nat) (z2 : List Int) (k : Int) (w : World)
    (ht : Ints .i64 w A0 n0 z0) (hv : Strs w A1 n1 z1) (he : Ints .i64 w A2 n2 z2) (_ : (Lit.int .i64 k).wf = true) :
    Calls Try.prog 7 #[.slice A0 n0 c0, .slice A1 n1 c1, .slice A2 n2 c2, .int .i64 k] w fun e w' => e = .returned (.bool true) ∧ Below w.heap.size w w' := by
  have hm0 := ht.2.1
  have hm1 := hv.2.1
  have hm2 := he.2.1
  have HT := Lib.hid ht; clear ht
  have HV := Lib.hid hv; clear hv
  have HE := Lib.hid he; clear he
  by_cases hsmall : n0 ≤ 65536 ∧ n1 ≤ 65536 ∧ n2 ≤ 65536 ∧ 0 ≤ k ∧ k ≤ 65536
  case neg =>
    go_enter Try.func7, Try.ntmps7
    go_wp2_with fail
    refine (zzMakeCheckpointExact A0 n0 c0 A1 n1 c1 z1 A2 n2 c2 k _ HV.out hm0 hm2).mono ?_
    rintro e w1 ⟨b, rfl, rfl⟩
    unfold maxLen at hm0 hm1 hm2
    cases b
    · go_wp2_with fail
      go_ret
      exact ⟨rfl, Below.refl _ _⟩
    · by_cases hs3 : n0 ≤ 65536 ∧ n1 ≤ 65536 ∧ n2 ≤ 65536
      · obtain ⟨hs0, hs1, hs2⟩ := hs3
        go_wp2_with fail
        refine (bytesOK_any A0 n0 c0 A1 n1 c1 z1 A2 n2 c2 _ HV.out hs0 hs1 hs2).mono ?_
        rintro e w1 ⟨b, rfl, rfl⟩
        cases b
        · go_wp2_with fail
          go_ret
          exact ⟨rfl, Below.refl _ _⟩
        · go_wp2_with fail
          all_goals first | (exfalso; omega) | (go_ret; exact ⟨rfl, Below.refl _ _⟩)
      · go_wp2_with fail
        all_goals first | (exfalso; omega) | (go_ret; exact ⟨rfl, Below.refl _ _⟩)
  case pos =>
    obtain ⟨hs0, hs1, hs2, hk0, hk1⟩ := hsmall
    have hF : PL.First (types (b6Toks z0 z1)) ((b6Toks z0 z1).length - 1) := b6Go_first z1 z0 0
    have hw := b6Go_wf z1 z0 0 HT.out.2.2.1
    have hlen : 0 < (b6Toks z0 z1).length ∧ (b6Toks z0 z1).length ≤ z0.length + 1 := b6Go_length z1 z0 0
    rw [HT.out.1] at hlen
    obtain ⟨hle0, hle1⟩ := hlen
    have HW : Hid (∀ t ∈ b6Toks z0 z1, (Lit.int .i64 t.ty).wf = true) := hw; clear hw
    have htoks := fun W hb => toks_any A0 n0 c0 z0 A1 n1 c1 z1 W (HT.out.later hb) (HV.out.later hb) hs0 hs1
    have helide := fun W hb => elide_any A2 n2 c2 z2 W (HE.out.later hb) hs2
    have hfresh := fun W hb => fresh_any A0 n0 c0 z0 A1 n1 c1 z1 A2 n2 c2 z2 k W (HT.out.later hb) (HV.out.later hb) (HE.out.later hb) hs0 hs1 hs2 (by omega) (by omega)
    generalize b6Toks z0 z1 = L at *
    generalize inS z2 = S at *
    have hI := PL.inv_run (S := S) hF (k).toNat
    generalize (PL.fresh S (types L)).run S (types L) (k).toNat = s at *
    have HF := Lib.hid hF; clear hF
    have HI := Lib.hid hI; clear hI
    have HTK := Lib.hid htoks; clear htoks
    have HEL := Lib.hid helide; clear helide
    have HFR := Lib.hid hfresh; clear hfresh
    go_enter Try.func7, Try.ntmps7
    go_wp2_with fail
    refine (zzMakeCheckpointExact A0 n0 c0 A1 n1 c1 z1 A2 n2 c2 k _ HV.out hm0 hm2).mono ?_
    rintro e w1 ⟨b, rfl, rfl⟩
    unfold maxLen at hm0 hm1 hm2
    cases b
    · go_wp2_with fail
      go_ret
      exact ⟨rfl, Below.refl _ _⟩
    go_wp2_with fail
    refine (bytesOK_any A0 n0 c0 A1 n1 c1 z1 A2 n2 c2 _ HV.out hs0 hs1 hs2).mono ?_
    rintro e w1 ⟨b, rfl, rfl⟩
    cases b
    · go_wp2_with fail
      go_ret
      exact ⟨rfl, Below.refl _ _⟩
    go_wp2_with fail
    refine (HTK.out _ (Below.refl _ _)).mono ?_
    rintro e w1 ⟨rb, cap, rfl, hrb, hrow, hb1⟩
    go_wp2_with fail
    refine (HEL.out _ hb1).mono ?_
    rintro e w2 ⟨eb, en, rfl, heb, hset, hb2⟩
    have hrow2 := hrow.later hb2
    have hb2' := below_next hb2 hb1
    clear hrow hb2
    go_wp2_with fail
    refine (HFR.out _ hb2').mono ?_
    rintro e w3 ⟨pb, tb, mb, c, nm, rfl, hpb, htb, hmb, hx, hb3⟩
    have hrow3 := hrow2.later hb3
    have hset3 := hset.later hb3
    have hb3' := below_next hb3 hb2'
    clear hrow2 hset hb3 hb1 hb2'
    go_wp2_with fail
    refine (make_any _ pb tb mb c nm L S _ _ _ hx).mono ?_
    rintro e w4 ⟨rfl, hb4⟩
    have hx4 := hx.later hb4
    have hrow4 := hrow3.later hb4
    have hset4 := hset3.later hb4
    have hb4' := below_next hb4 hb3'
    clear hx hrow3 hset3 hb4 hb3'
    go_wp2_with fail
    have hx5 := hx4.alloc (.cells #[.int .i64 s.raw, .int .i64 s.next, .int .i64 s.cur] 49)
    have hrow5 := hrow4.alloc (.cells #[.int .i64 s.raw, .int .i64 s.next, .int .i64 s.cur] 49)
    have hset5 := hset4.alloc (.cells #[.int .i64 s.raw, .int .i64 s.next, .int .i64 s.cur] 49)
    have hcb5 := Blk.new w4 49 #[.int .i64 s.raw, .int .i64 s.next, .int .i64 s.cur]
    have hb5 := hb4'.alloc hb4'.size (.cells #[.int .i64 s.raw, .int .i64 s.next, .int .i64 s.cur] 49)
    refine (after_any _ rb eb cap en L S k hrow5 hset5 HW.out (by omega) hle0 HF.out hk0 (by omega)).mono ?_
    rintro e w6 ⟨r, d, rfl, hA, hb6⟩
    obtain ⟨hr1, hr2⟩ := HI.out.unique hA.le hA.cnt hA.last hA.most hA.all
    subst hr1
    subst hr2
    have hx6 := hx5.later hb6
    have hcb6 := hcb5.later hb6
    have hb6' := below_next hb6 hb5
    obtain ⟨cb, hcb⟩ : ∃ cb, cb = w4.heap.size := ⟨_, rfl⟩
    rw [← hcb] at hcb6 ⊢
    clear hA hx4 hx5 hrow4 hrow5 hset4 hset5 hcb5 hb4' hb5 hb6 hcb
    go_wp2_with fail
    go_region_held3 (fun w' => Lx w' pb tb mb c nm L S s.raw s.next s.cur ∧ Blk w' cb 49 #[.int .i64 s.raw, .int .i64 s.next, .int .i64 s.cur] ∧ Below w.heap.size w w' ∧ w'.cell? ⟨cb, 0, none⟩ = some (.int .i64 s.raw) ∧ w'.cell? ⟨cb, 1, none⟩ = some (.int .i64 s.next) ∧ w'.cell? ⟨cb, 2, none⟩ = some (.int .i64 s.cur))
      (first | assumption | exact heldCp hx6.drew hcb6.drew (hb6'.drew) | (go_split_ands; exact heldCp (Lx.later (by assumption) hbl) (Blk.later (by assumption) hbl) (below_next hbl (by assumption))))
      (first | (go_at_call 21; refine (cursor_any _ _ _ _).mono ?_; rintro e w' ⟨rfl, hbl⟩) | (go_at_call 22; refine (rawCursor_any _ _ _ _).mono ?_; rintro e w' ⟨rfl, hbl⟩) | (go_at_call 34; refine (make_any _ pb tb mb c nm L S s.raw s.next s.cur (by go_split_ands; assumption)).mono ?_; rintro e w' ⟨rfl, hbl⟩))
    all_goals go_wp2_with fail
    all_goals (go_ret; exact ⟨rfl, by simp [*]⟩)
end fnMakeCheckpointExact
end Go.Proofs.Ytomfonilbenhbaa
