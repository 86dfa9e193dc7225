/-
  The walk of FnRawPeekAfterSteps: behind k calls of Next the raw cursor and RawPeek are as the model says. Conditions: none beyond the statement's own.
-/
import Derived.Test.YtomfonilbenhbaaN9A
import Derived.Test.YtomfonilbenhbaaN9C
namespace Go.Proofs.Ytomfonilbenhbaa
open Go.RowKit
set_option linter.unusedSimpArgs false

/-- All that a law's last region loads: the lexer's cells, token i of its stream and of the reference stream. -/
theorem heldRef {w0 w' : World} {pb tb mb rb c nm : Nat} {L : List Tok} {S : Int → Bool} {raw next cur : Int} (h : Lx w' pb tb mb c nm L S raw next cur) (hr : Row w' rb 46 (toksCells L)) (hb : Below w0.heap.size w0 w')
    {i : Nat} {t : Tok} (ht : Hid (t = L.getD i eofTok)) (hi : i < L.length) :
    Lx w' pb tb mb c nm L S raw next cur ∧ Row w' rb 46 (toksCells L) ∧ Below w0.heap.size w0 w' ∧ w'.cell? ⟨pb, 0, none⟩ = some (.int .i64 raw) ∧ w'.cell? ⟨pb, 1, none⟩ = some (.int .i64 next) ∧ w'.cell? ⟨pb, 2, none⟩ = some (.int .i64 cur) ∧ w'.cell? ⟨pb, 3, none⟩ = some (.slice (some ⟨tb, 0, none⟩) L.length c) ∧ w'.cell? ⟨pb, 4, none⟩ = some (.map (some mb)) ∧ w'.cell? ⟨tb, i * 6, none⟩ = some (.int .i64 t.ty) ∧ w'.cell? ⟨tb, i * 6 + 1, none⟩ = some (.string t.val) ∧ w'.cell? ⟨tb, i * 6 + 1 + 1, none⟩ = some (.string t.fn) ∧ w'.cell? ⟨tb, i * 6 + 1 + 1 + 1, none⟩ = some (.int .i64 t.off) ∧ w'.cell? ⟨tb, i * 6 + 1 + 1 + 1 + 1, none⟩ = some (.int .i64 t.line) ∧ w'.cell? ⟨tb, i * 6 + 1 + 1 + 1 + 1 + 1, none⟩ = some (.int .i64 t.col) ∧ w'.cell? ⟨rb, i * 6, none⟩ = some (.int .i64 t.ty) ∧ w'.cell? ⟨rb, i * 6 + 1, none⟩ = some (.string t.val) ∧ w'.cell? ⟨rb, i * 6 + 1 + 1, none⟩ = some (.string t.fn) ∧ w'.cell? ⟨rb, i * 6 + 1 + 1 + 1, none⟩ = some (.int .i64 t.off) ∧ w'.cell? ⟨rb, i * 6 + 1 + 1 + 1 + 1, none⟩ = some (.int .i64 t.line) ∧ w'.cell? ⟨rb, i * 6 + 1 + 1 + 1 + 1 + 1, none⟩ = some (.int .i64 t.col) := by
  obtain ⟨c0, c1, c2, c3, c4⟩ := h.cells
  obtain ⟨t0, t1, t2, t3, t4, t5⟩ := h.tok hi
  rw [ht.out]
  exact ⟨h, hr, hb, c0, c1, c2, c3, c4, t0, t1, t2, t3, t4, t5, hr.cell ((toksCells_at L i 0 (by omega) hi).trans rfl), hr.cell ((toksCells_at L i 1 (by omega) hi).trans rfl), hr.cell ((toksCells_at L i 2 (by omega) hi).trans rfl),
    hr.cell ((toksCells_at L i 3 (by omega) hi).trans rfl), hr.cell ((toksCells_at L i 4 (by omega) hi).trans rfl), hr.cell ((toksCells_at L i 5 (by omega) hi).trans rfl)⟩

namespace fnRawPeekAfterSteps
set_option maxHeartbeats 1000000 in
set_option maxRecDepth 100000 in
theorem walk (A0 : Option Addr) (n0 c0 : Nat) (z0 : List Int) (A1 : Option Addr) (n1 c1 : Nat) (z1 : List ByteArray) (A2 : Option Addr) (n2 c2 : Nat) (z2 : List Int) (k : Int) (w : World)
    (ht : Ints .i64 w A0 n0 z0) (hv : Strs w A1 n1 z1) (he : Ints .i64 w A2 n2 z2) (_ : (Lit.int .i64 k).wf = true) :
    Calls Try.prog 6 #[.slice A0 n0 c0, .slice A1 n1 c1, .slice A2 n2 c2, .int .i64 k] w fun e w' => e = .returned (.bool true) ∧ Below w.heap.size w w' := by
  have hm0 := ht.2.1
  have hm1 := hv.2.1
  have hm2 := he.2.1
  have HT := Lib.hid ht; clear ht
  have HV := Lib.hid hv; clear hv
  have HE := Lib.hid he; clear he
  by_cases hsmall : n0 ≤ 65536 ∧ n1 ≤ 65536 ∧ n2 ≤ 65536 ∧ 0 ≤ k ∧ k ≤ 65536
  case neg =>
    go_enter Try.func6, Try.ntmps6
    go_wp2_with fail
    refine (zzRawPeekAfterSteps A0 n0 c0 A1 n1 c1 z1 A2 n2 c2 k _ HV.out hm0 hm2).mono ?_
    rintro e w1 ⟨b, rfl, rfl⟩
    unfold maxLen at hm0 hm1 hm2
    cases b
    · go_wp2_with fail
      go_ret
      exact ⟨rfl, Below.refl _ _⟩
    · by_cases hs3 : n0 ≤ 65536 ∧ n1 ≤ 65536 ∧ n2 ≤ 65536
      · obtain ⟨hs0, hs1, hs2⟩ := hs3
        go_wp2_with fail
        refine (bytesOK_any A0 n0 c0 A1 n1 c1 z1 A2 n2 c2 _ HV.out hs0 hs1 hs2).mono ?_
        rintro e w1 ⟨b, rfl, rfl⟩
        cases b
        · go_wp2_with fail
          go_ret
          exact ⟨rfl, Below.refl _ _⟩
        · go_wp2_with fail
          all_goals (go_ret; exact ⟨rfl, Below.refl _ _⟩)
      · go_wp2_with fail
        all_goals (go_ret; exact ⟨rfl, Below.refl _ _⟩)
  case pos =>
    obtain ⟨hs0, hs1, hs2, hk0, hk1⟩ := hsmall
    have hF : PL.First (types (b6Toks z0 z1)) ((b6Toks z0 z1).length - 1) := b6Go_first z1 z0 0
    have hw := b6Go_wf z1 z0 0 HT.out.2.2.1
    have hlen : 0 < (b6Toks z0 z1).length ∧ (b6Toks z0 z1).length ≤ z0.length + 1 := b6Go_length z1 z0 0
    rw [HT.out.1] at hlen
    obtain ⟨hle0, hle1⟩ := hlen
    have HW : Hid (∀ t ∈ b6Toks z0 z1, (Lit.int .i64 t.ty).wf = true) := hw; clear hw
    have htoks := fun W hb => toks_any A0 n0 c0 z0 A1 n1 c1 z1 W (HT.out.later hb) (HV.out.later hb) hs0 hs1
    have helide := fun W hb => elide_any A2 n2 c2 z2 W (HE.out.later hb) hs2
    have hfresh := fun W hb => fresh_any A0 n0 c0 z0 A1 n1 c1 z1 A2 n2 c2 z2 k W (HT.out.later hb) (HV.out.later hb) (HE.out.later hb) hs0 hs1 hs2 hk0 hk1
    generalize b6Toks z0 z1 = L at *
    generalize inS z2 = S at *
    have hI := PL.inv_run (S := S) hF k.toNat
    generalize (PL.fresh S (types L)).run S (types L) k.toNat = s at *
    have HF := Lib.hid hF; clear hF
    have HI := Lib.hid hI; clear hI
    have HTK := Lib.hid htoks; clear htoks
    have HEL := Lib.hid helide; clear helide
    have HFR := Lib.hid hfresh; clear hfresh
    go_enter Try.func6, Try.ntmps6
    go_wp2_with fail
    refine (zzRawPeekAfterSteps A0 n0 c0 A1 n1 c1 z1 A2 n2 c2 k _ HV.out hm0 hm2).mono ?_
    rintro e w1 ⟨b, rfl, rfl⟩
    unfold maxLen at hm0 hm1 hm2
    cases b
    · go_wp2_with fail
      go_ret
      exact ⟨rfl, Below.refl _ _⟩
    go_wp2_with fail
    refine (bytesOK_any A0 n0 c0 A1 n1 c1 z1 A2 n2 c2 _ HV.out hs0 hs1 hs2).mono ?_
    rintro e w1 ⟨b, rfl, rfl⟩
    cases b
    · go_wp2_with fail
      go_ret
      exact ⟨rfl, Below.refl _ _⟩
    go_wp2_with fail
    refine (HTK.out _ (Below.refl _ _)).mono ?_
    rintro e w1 ⟨rb, cap, rfl, hrb, hrow, hb1⟩
    go_wp2_with fail
    refine (HEL.out _ hb1).mono ?_
    rintro e w2 ⟨eb, en, rfl, heb, hset, hb2⟩
    have hrow2 := hrow.later hb2
    have hb2' := below_next hb2 hb1
    clear hrow hb2
    go_wp2_with fail
    refine (HFR.out _ hb2').mono ?_
    rintro e w3 ⟨pb, tb, mb, c, nm, rfl, hpb, htb, hmb, hx, hb3⟩
    have hrow3 := hrow2.later hb3
    have hset3 := hset.later hb3
    have hb3' := below_next hb3 hb2'
    clear hrow2 hset hb3 hb1 hb2'
    go_wp2_with fail
    refine (after_any _ rb eb cap en L S k hrow3 hset3 HW.out (by omega) hle0 HF.out hk0 (by omega)).mono ?_
    rintro e w4 ⟨r, d, rfl, hA, hb4⟩
    obtain ⟨hr1, hr2⟩ := HI.out.unique hA.le hA.cnt hA.last hA.most hA.all
    subst hr1
    subst hr2
    have hx4 := hx.later hb4
    have hrow4 := hrow3.later hb4
    have hb4' := below_next hb4 hb3'
    clear hA hrow3 hset3 hx hb4 hb3'
    have hlt : s.raw < L.length := by have := HI.out.raw; omega
    obtain ⟨t, ht⟩ : ∃ t, t = L.getD s.raw eofTok := ⟨_, rfl⟩
    have HTT := Lib.hid ht; clear ht
    have hi0 : (0 : Int) ≤ (s.raw : Int) := by omega
    have hi1 : (s.raw : Int) < (L.length : Int) := by omega
    go_wp2_with fail
    go_region_held3 (fun w' => Lx w' pb tb mb c nm L S s.raw s.next s.cur ∧ Row w' rb 46 (toksCells L) ∧ Below w.heap.size w w' ∧ w'.cell? ⟨pb, 0, none⟩ = some (.int .i64 s.raw) ∧ w'.cell? ⟨pb, 1, none⟩ = some (.int .i64 s.next) ∧ w'.cell? ⟨pb, 2, none⟩ = some (.int .i64 s.cur) ∧ w'.cell? ⟨pb, 3, none⟩ = some (.slice (some ⟨tb, 0, none⟩) L.length c) ∧ w'.cell? ⟨pb, 4, none⟩ = some (.map (some mb)) ∧ w'.cell? ⟨tb, s.raw * 6, none⟩ = some (.int .i64 t.ty) ∧ w'.cell? ⟨tb, s.raw * 6 + 1, none⟩ = some (.string t.val) ∧ w'.cell? ⟨tb, s.raw * 6 + 1 + 1, none⟩ = some (.string t.fn) ∧ w'.cell? ⟨tb, s.raw * 6 + 1 + 1 + 1, none⟩ = some (.int .i64 t.off) ∧ w'.cell? ⟨tb, s.raw * 6 + 1 + 1 + 1 + 1, none⟩ = some (.int .i64 t.line) ∧ w'.cell? ⟨tb, s.raw * 6 + 1 + 1 + 1 + 1 + 1, none⟩ = some (.int .i64 t.col) ∧ w'.cell? ⟨rb, s.raw * 6, none⟩ = some (.int .i64 t.ty) ∧ w'.cell? ⟨rb, s.raw * 6 + 1, none⟩ = some (.string t.val) ∧ w'.cell? ⟨rb, s.raw * 6 + 1 + 1, none⟩ = some (.string t.fn) ∧ w'.cell? ⟨rb, s.raw * 6 + 1 + 1 + 1, none⟩ = some (.int .i64 t.off) ∧ w'.cell? ⟨rb, s.raw * 6 + 1 + 1 + 1 + 1, none⟩ = some (.int .i64 t.line) ∧ w'.cell? ⟨rb, s.raw * 6 + 1 + 1 + 1 + 1 + 1, none⟩ = some (.int .i64 t.col))
      (first | assumption | exact heldRef hx4.drew hrow4 (hb4'.drew) HTT hlt | (go_split_ands; exact heldRef (Lx.later (by assumption) hbl) (Row.later (by assumption) hbl) (below_next hbl (by assumption)) HTT hlt) | (go_split_ands; exact heldRef (Lx.drewN (by assumption) _) (by assumption) (below_drewN (by assumption) _) HTT hlt))
      (first | (go_at_call 22; refine (rawCursor_any _ _ _ _).mono ?_; rintro e w' ⟨rfl, hbl⟩) | (go_at_call 24; refine (rawPeek_any _ pb tb mb c nm L S _ _ s.raw (by go_split_ands; assumption) hlt).mono ?_; rintro e w' ⟨rfl, q, rfl⟩))
    all_goals go_wp2_with fail
    all_goals (go_ret; exact ⟨rfl, by simp [*]⟩)
end fnRawPeekAfterSteps
end Go.Proofs.Ytomfonilbenhbaa
