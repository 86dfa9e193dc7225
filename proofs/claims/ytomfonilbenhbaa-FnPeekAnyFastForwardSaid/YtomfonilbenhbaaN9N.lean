/-
  The walk of FnPeekAnyFastForward: FastForward to what PeekAny found: the raw cursor stands behind it, the cursor has counted the visible tokens, Peek is the next stop. Conditions: none beyond the statement's own.
-/
import Derived.Test.YtomfonilbenhbaaN9A
import Derived.Test.YtomfonilbenhbaaN9M
namespace Go.Proofs.Ytomfonilbenhbaa
open Go.RowKit
set_option linter.unusedSimpArgs false

theorem rowTok {W : World} {rb m : Nat} {L : List Tok} {t : Tok} (hr : Row W rb 46 (toksCells L)) (HA : Hid (t = L.getD m eofTok)) (hm : m < L.length) : W.cell? ⟨rb, m * 6, none⟩ = some (.int .i64 t.ty) ∧ W.cell? ⟨rb, m * 6 + 1, none⟩ = some (.string t.val) ∧ W.cell? ⟨rb, m * 6 + 1 + 1, none⟩ = some (.string t.fn) ∧ W.cell? ⟨rb, m * 6 + 1 + 1 + 1, none⟩ = some (.int .i64 t.off) ∧ W.cell? ⟨rb, m * 6 + 1 + 1 + 1 + 1, none⟩ = some (.int .i64 t.line) ∧ W.cell? ⟨rb, m * 6 + 1 + 1 + 1 + 1 + 1, none⟩ = some (.int .i64 t.col) := by
  have e0 := hr.cell ((toksCells_at L m 0 (by omega) hm).trans rfl)
  have e1 := hr.cell ((toksCells_at L m 1 (by omega) hm).trans rfl)
  have e2 := hr.cell ((toksCells_at L m 2 (by omega) hm).trans rfl)
  have e3 := hr.cell ((toksCells_at L m 3 (by omega) hm).trans rfl)
  have e4 := hr.cell ((toksCells_at L m 4 (by omega) hm).trans rfl)
  have e5 := hr.cell ((toksCells_at L m 5 (by omega) hm).trans rfl)
  rw [← HA.out] at e0 e1 e2 e3 e4 e5
  exact ⟨e0, e1, e2, e3, e4, e5⟩
theorem heldF {w0 w' : World} {pb tb mb c nm rb eb en b m : Nat} {L : List Tok} {S : Int → Bool} {raw next cur r n q : Int} {fs : List (Nat × TypeId × Array Value)} {t : Tok}
    (C : Car w0 w' pb tb mb c nm L S raw next cur rb (toksCells L) eb en fs) (h : (b, 49, #[.int .i64 r, .int .i64 n, .int .i64 q]) ∈ fs) (HA : Hid (t = L.getD m eofTok)) (hm : m < L.length) :
    Car w0 w' pb tb mb c nm L S raw next cur rb (toksCells L) eb en fs ∧ (w'.cell? ⟨b, 0, none⟩ = some (.int .i64 r) ∧ w'.cell? ⟨b, 1, none⟩ = some (.int .i64 n) ∧ w'.cell? ⟨b, 2, none⟩ = some (.int .i64 q)) ∧ (w'.cell? ⟨rb, m * 6, none⟩ = some (.int .i64 t.ty) ∧ w'.cell? ⟨rb, m * 6 + 1, none⟩ = some (.string t.val) ∧ w'.cell? ⟨rb, m * 6 + 1 + 1, none⟩ = some (.string t.fn) ∧ w'.cell? ⟨rb, m * 6 + 1 + 1 + 1, none⟩ = some (.int .i64 t.off) ∧ w'.cell? ⟨rb, m * 6 + 1 + 1 + 1 + 1, none⟩ = some (.int .i64 t.line) ∧ w'.cell? ⟨rb, m * 6 + 1 + 1 + 1 + 1 + 1, none⟩ = some (.int .i64 t.col)) ∧ (w'.cell? ⟨tb, m * 6, none⟩ = some (.int .i64 t.ty) ∧ w'.cell? ⟨tb, m * 6 + 1, none⟩ = some (.string t.val) ∧ w'.cell? ⟨tb, m * 6 + 1 + 1, none⟩ = some (.string t.fn) ∧ w'.cell? ⟨tb, m * 6 + 1 + 1 + 1, none⟩ = some (.int .i64 t.off) ∧ w'.cell? ⟨tb, m * 6 + 1 + 1 + 1 + 1, none⟩ = some (.int .i64 t.line) ∧ w'.cell? ⟨tb, m * 6 + 1 + 1 + 1 + 1 + 1, none⟩ = some (.int .i64 t.col)) ∧ w'.cell? ⟨pb, 0, none⟩ = some (.int .i64 raw) ∧ w'.cell? ⟨pb, 1, none⟩ = some (.int .i64 next) ∧ w'.cell? ⟨pb, 2, none⟩ = some (.int .i64 cur) ∧ w'.cell? ⟨pb, 3, none⟩ = some (.slice (some ⟨tb, 0, none⟩) L.length c) ∧ w'.cell? ⟨pb, 4, none⟩ = some (.map (some mb)) := by
  have k := C.blks _ h
  have hr := C.row
  have e0 := hr.cell ((toksCells_at L m 0 (by omega) hm).trans rfl)
  have e1 := hr.cell ((toksCells_at L m 1 (by omega) hm).trans rfl)
  have e2 := hr.cell ((toksCells_at L m 2 (by omega) hm).trans rfl)
  have e3 := hr.cell ((toksCells_at L m 3 (by omega) hm).trans rfl)
  have e4 := hr.cell ((toksCells_at L m 4 (by omega) hm).trans rfl)
  have e5 := hr.cell ((toksCells_at L m 5 (by omega) hm).trans rfl)
  rw [← HA.out] at e0 e1 e2 e3 e4 e5
  obtain ⟨a0, a1, a2, a3, a4, a5⟩ := C.lx.tok hm
  rw [← HA.out] at a0 a1 a2 a3 a4 a5
  obtain ⟨c0, c1, c2, c3, c4⟩ := C.lx.cells
  exact ⟨C, ⟨k.cell 0, k.cell 1, k.cell 2⟩, ⟨e0, e1, e2, e3, e4, e5⟩, ⟨a0, a1, a2, a3, a4, a5⟩, c0, c1, c2, c3, c4⟩

namespace fnPeekAnyFastForward
set_option maxHeartbeats 8000000 in
set_option maxRecDepth 100000 in
theorem walk (A0 : Option Addr) (n0 c0 : Nat) (z0 : List Int) (A1 : Option Addr) (n1 c1 : Nat) (z1 : List ByteArray) (A2 : Option Addr) (n2 c2 : Nat) (z2 : List Int) (k : Int) (q : Int) (w : World)
    (ht : Ints .i64 w A0 n0 z0) (hv : Strs w A1 n1 z1) (he : Ints .i64 w A2 n2 z2) (_ : (Lit.int .i64 k).wf = true) (_ : (Lit.int .i64 q).wf = true) :
    Calls Try.prog 9 #[.slice A0 n0 c0, .slice A1 n1 c1, .slice A2 n2 c2, .int .i64 k, .int .i64 q] w fun e w' => e = .returned (.bool true) ∧ Below w.heap.size w w' := by
  have hm0 := ht.2.1
  have hm1 := hv.2.1
  have hm2 := he.2.1
  have HT := Lib.hid ht; clear ht
  have HV := Lib.hid hv; clear hv
  have HE := Lib.hid he; clear he
  by_cases hsmall : n0 ≤ 65536 ∧ n1 ≤ 65536 ∧ n2 ≤ 65536 ∧ 0 ≤ k ∧ k ≤ 65536 ∧ 0 ≤ q ∧ q ≤ 2
  case neg =>
    go_enter Try.func9, Try.ntmps9
    go_wp2_with fail
    refine (zzPeekAnyFastForward A0 n0 c0 A1 n1 c1 z1 A2 n2 c2 k q _ HV.out hm0 hm2).mono ?_
    rintro e w1 ⟨b, rfl, rfl⟩
    unfold maxLen at hm0 hm1 hm2
    cases b
    · go_wp2_with fail
      go_ret
      exact ⟨rfl, Below.refl _ _⟩
    · by_cases hs3 : n0 ≤ 65536 ∧ n1 ≤ 65536 ∧ n2 ≤ 65536
      · obtain ⟨hs0, hs1, hs2⟩ := hs3
        go_wp2_with fail
        refine (bytesOK_any A0 n0 c0 A1 n1 c1 z1 A2 n2 c2 _ HV.out hs0 hs1 hs2).mono ?_
        rintro e w1 ⟨b, rfl, rfl⟩
        cases b
        · go_wp2_with fail
          go_ret
          exact ⟨rfl, Below.refl _ _⟩
        · go_wp2_with fail
          all_goals first | (exfalso; omega) | (go_ret; exact ⟨rfl, Below.refl _ _⟩)
      · go_wp2_with fail
        all_goals first | (exfalso; omega) | (go_ret; exact ⟨rfl, Below.refl _ _⟩)
  case pos =>
    obtain ⟨hs0, hs1, hs2, hk0, hk1, hk2, hk3⟩ := hsmall
    have hF : PL.First (types (b6Toks z0 z1)) ((b6Toks z0 z1).length - 1) := b6Go_first z1 z0 0
    have hw := b6Go_wf z1 z0 0 HT.out.2.2.1
    have hlen : 0 < (b6Toks z0 z1).length ∧ (b6Toks z0 z1).length ≤ z0.length + 1 := b6Go_length z1 z0 0
    rw [HT.out.1] at hlen
    obtain ⟨hle0, hle1⟩ := hlen
    have HW : Hid (∀ t ∈ b6Toks z0 z1, (Lit.int .i64 t.ty).wf = true) := hw; clear hw
    have htoks := fun W hb => toks_any A0 n0 c0 z0 A1 n1 c1 z1 W (HT.out.later hb) (HV.out.later hb) hs0 hs1
    have helide := fun W hb => elide_any A2 n2 c2 z2 W (HE.out.later hb) hs2
    have hfresh := fun W hb => fresh_any A0 n0 c0 z0 A1 n1 c1 z1 A2 n2 c2 z2 k W (HT.out.later hb) (HV.out.later hb) (HE.out.later hb) hs0 hs1 hs2 (by omega) (by omega)
    generalize b6Toks z0 z1 = L at *
    generalize inS z2 = S at *
    have hI := PL.inv_run (S := S) hF (k).toNat
    generalize (PL.fresh S (types L)).run S (types L) (k).toNat = s at *
    have HF := Lib.hid hF; clear hF
    have HI := Lib.hid hI; clear hI
    have HTK := Lib.hid htoks; clear htoks
    have HEL := Lib.hid helide; clear helide
    have HFR := Lib.hid hfresh; clear hfresh
    go_enter Try.func9, Try.ntmps9
    go_wp2_with fail
    refine (zzPeekAnyFastForward A0 n0 c0 A1 n1 c1 z1 A2 n2 c2 k q _ HV.out hm0 hm2).mono ?_
    rintro e w1 ⟨b, rfl, rfl⟩
    unfold maxLen at hm0 hm1 hm2
    cases b
    · go_wp2_with fail
      go_ret
      exact ⟨rfl, Below.refl _ _⟩
    go_wp2_with fail
    refine (bytesOK_any A0 n0 c0 A1 n1 c1 z1 A2 n2 c2 _ HV.out hs0 hs1 hs2).mono ?_
    rintro e w1 ⟨b, rfl, rfl⟩
    cases b
    · go_wp2_with fail
      go_ret
      exact ⟨rfl, Below.refl _ _⟩
    go_wp2_with fail
    refine (HTK.out _ (Below.refl _ _)).mono ?_
    rintro e w1 ⟨rb, cap, rfl, hrb, hrow, hb1⟩
    go_wp2_with fail
    refine (HEL.out _ hb1).mono ?_
    rintro e w2 ⟨eb, en, rfl, heb, hset, hb2⟩
    have hrow2 := hrow.later hb2
    have hb2' := below_next hb2 hb1
    clear hrow hb2
    go_wp2_with fail
    refine (HFR.out _ hb2').mono ?_
    rintro e w3 ⟨pb, tb, mb, c, nm, rfl, hpb, htb, hmb, hx, hb3⟩
    have hrow3 := hrow2.later hb3
    have hset3 := hset.later hb3
    have hb3' := below_next hb3 hb2'
    have hpw : w.heap.size ≤ pb := Nat.le_trans hb2'.size hpb
    clear hrow2 hset hb3 hb1 hb2'
    go_wp2_with fail
    have C0 : Car w w3 pb tb mb c nm L S s.raw s.next s.cur rb (toksCells L) eb en [] := ⟨hx, hrow3, hset3, Blks.nil _, hb3'⟩
    clear hx hrow3 hset3 hb3'
    have hn1 : s.next < L.length := by have := HI.out.le; omega
    have hr1 : s.raw < L.length := by have := HI.out.raw; omega
    have hnx : PL.stop S (types L) s.raw = s.next := HI.out.next.symm
    have HNX := Lib.hid hnx; clear hnx
    refine (make_any _ pb tb mb c nm L S _ _ _ C0.lx).mono ?_
    rintro e w1 ⟨rfl, hb2⟩
    have C3 : Car w w1 pb tb mb c nm L S s.raw s.next s.cur rb (toksCells L) eb en [] := C0.later hb2
    clear C0 hb2
    go_wp2_with fail
    have C4 := C3.alloc #[.int .i64 s.raw, .int .i64 s.next, .int .i64 s.cur] 49
    obtain ⟨b1, eb1⟩ : ∃ b, b = w1.heap.size := ⟨_, rfl⟩
    obtain ⟨W5, eW5⟩ : ∃ W, W = w1.alloc (.cells #[.int .i64 s.raw, .int .i64 s.next, .int .i64 s.cur] 49) := ⟨_, rfl⟩
    rw [← eb1] at C4 ⊢
    rw [← eW5] at C4 ⊢
    clear C3 eb1 eW5
    refine (selAny_any q hk2 hk3 _ pb tb mb c nm L S s.raw _ _ C4.lx (by rw [HNX.out]; exact hn1)).mono ?_
    rintro e wA ⟨m, t, ht, rfl, hm0, hm1, hall, hst, hbA⟩
    have hms : m ≤ s.next := by
      rcases Nat.lt_or_ge s.next m with h | h
      · have h1 := (hall s.next (by rw [← HNX.out]; exact PL.le_stop _) h).1
        have h2 := (PL.stop_spec (S := S) (T := types L) s.raw).2
        rw [HNX.out, h1] at h2; cases h2
      · exact h
    have HTT := Lib.hid ht; clear ht hall hst
    have C6 : Car w wA pb tb mb c nm L S s.raw s.next s.cur rb (toksCells L) eb en [(b1, 49, #[.int .i64 s.raw, .int .i64 s.next, .int .i64 s.cur])] := C4.later hbA
    clear C4 hbA
    go_wp2_with fail
    have C7 := C6.alloc #[.int .i64 t.ty, .string t.val, .string t.fn, .int .i64 t.off, .int .i64 t.line, .int .i64 t.col] 46
    obtain ⟨b2, eb2⟩ : ∃ b, b = wA.heap.size := ⟨_, rfl⟩
    obtain ⟨W8, eW8⟩ : ∃ W, W = wA.alloc (.cells #[.int .i64 t.ty, .string t.val, .string t.fn, .int .i64 t.off, .int .i64 t.line, .int .i64 t.col] 46) := ⟨_, rfl⟩
    rw [← eb2] at C7 ⊢
    rw [← eW8] at C7 ⊢
    clear C6 eb2 eW8
    by_cases hE : t.ty = -1
    case pos =>
      have HE := Lib.hid hE; clear hE
      refine (eof_yes t _ HE).mono ?_
      rintro e wB ⟨rfl, hbB⟩
      have C9 : Car w wB pb tb mb c nm L S s.raw s.next s.cur rb (toksCells L) eb en [(b2, 46, #[.int .i64 t.ty, .string t.val, .string t.fn, .int .i64 t.off, .int .i64 t.line, .int .i64 t.col]), (b1, 49, #[.int .i64 s.raw, .int .i64 s.next, .int .i64 s.cur])] := C7.later hbB
      clear C7 hbB
      have hme : m = s.next := by
        have h1 := HI.out.le
        rcases Nat.lt_or_ge m (L.length - 1) with h | h
        · have h2 := HF.out.none m h
          rw [at_types, ← HTT.out] at h2
          exact absurd HE.out h2
        · omega
      have HTN : Hid (t = L.getD s.next eofTok) := Lib.hid (by rw [← hme]; exact HTT.out)
      clear hme
      go_wp2_with fail
      go_region_held3 (fun w' => Car w w' pb tb mb c nm L S s.raw s.next s.cur rb (toksCells L) eb en [(b2, 46, #[.int .i64 t.ty, .string t.val, .string t.fn, .int .i64 t.off, .int .i64 t.line, .int .i64 t.col]), (b1, 49, #[.int .i64 s.raw, .int .i64 s.next, .int .i64 s.cur])] ∧ (w'.cell? ⟨b2, 0, none⟩ = some (.int .i64 t.ty) ∧ w'.cell? ⟨b2, 1, none⟩ = some (.string t.val) ∧ w'.cell? ⟨b2, 2, none⟩ = some (.string t.fn) ∧ w'.cell? ⟨b2, 3, none⟩ = some (.int .i64 t.off) ∧ w'.cell? ⟨b2, 4, none⟩ = some (.int .i64 t.line) ∧ w'.cell? ⟨b2, 5, none⟩ = some (.int .i64 t.col)) ∧ (w'.cell? ⟨tb, s.next * 6, none⟩ = some (.int .i64 t.ty) ∧ w'.cell? ⟨tb, s.next * 6 + 1, none⟩ = some (.string t.val) ∧ w'.cell? ⟨tb, s.next * 6 + 1 + 1, none⟩ = some (.string t.fn) ∧ w'.cell? ⟨tb, s.next * 6 + 1 + 1 + 1, none⟩ = some (.int .i64 t.off) ∧ w'.cell? ⟨tb, s.next * 6 + 1 + 1 + 1 + 1, none⟩ = some (.int .i64 t.line) ∧ w'.cell? ⟨tb, s.next * 6 + 1 + 1 + 1 + 1 + 1, none⟩ = some (.int .i64 t.col)) ∧ w'.cell? ⟨pb, 0, none⟩ = some (.int .i64 s.raw) ∧ w'.cell? ⟨pb, 1, none⟩ = some (.int .i64 s.next) ∧ w'.cell? ⟨pb, 2, none⟩ = some (.int .i64 s.cur) ∧ w'.cell? ⟨pb, 3, none⟩ = some (.slice (some ⟨tb, 0, none⟩) L.length c) ∧ w'.cell? ⟨pb, 4, none⟩ = some (.map (some mb)))
        (first | assumption | exact heldQ C9.drew (b := b2) (by simp) HTN hn1 | (go_split_ands; exact heldQ (Car.later (by assumption) hbl) (b := b2) (by simp) HTN hn1))
        (first | (go_at_call 25; refine (peek_any _ pb tb mb c nm L S _ _ s.next (by go_split_ands; exact Car.lx (by assumption)) hn1).mono ?_; rintro e w' ⟨rfl, q, hwq⟩; have hbl := below_of_drewN hwq; clear hwq))
      obtain ⟨D3, -⟩ := ‹Car w _ pb tb mb c nm L S s.raw s.next s.cur rb (toksCells L) eb en [(b2, 46, #[.int .i64 t.ty, .string t.val, .string t.fn, .int .i64 t.off, .int .i64 t.line, .int .i64 t.col]), (b1, 49, #[.int .i64 s.raw, .int .i64 s.next, .int .i64 s.cur])] ∧ _›
      go_wp2_with fail
      go_ret
      exact ⟨rfl, D3.bel⟩
    case neg =>
      have HE := Lib.hid hE; clear hE
      refine (eof_no t _ HE).mono ?_
      rintro e wB ⟨rfl, hbB⟩
      have C10 : Car w wB pb tb mb c nm L S s.raw s.next s.cur rb (toksCells L) eb en [(b2, 46, #[.int .i64 t.ty, .string t.val, .string t.fn, .int .i64 t.off, .int .i64 t.line, .int .i64 t.col]), (b1, 49, #[.int .i64 s.raw, .int .i64 s.next, .int .i64 s.cur])] := C7.later hbB
      clear C7 hbB
      have kk := C10.blks (b1, 49, #[.int .i64 s.raw, .int .i64 s.next, .int .i64 s.cur]) (by simp)
      have l0 := kk.cell 0
      have l1 := kk.cell 1
      have l2 := kk.cell 2
      simp at l0 l1 l2
      clear kk
      go_wp2_with fail
      clear l0 l1 l2
      refine (rawCursor_any _ _ _ _).mono ?_
      rintro e wC ⟨rfl, hbC⟩
      have C11 : Car w wC pb tb mb c nm L S s.raw s.next s.cur rb (toksCells L) eb en [(b2, 46, #[.int .i64 t.ty, .string t.val, .string t.fn, .int .i64 t.off, .int .i64 t.line, .int .i64 t.col]), (b1, 49, #[.int .i64 s.raw, .int .i64 s.next, .int .i64 s.cur])] := C10.later hbC
      clear C10 hbC
      have hmE : m < L.length - 1 := by
        rcases Nat.lt_or_ge m (L.length - 1) with h | h
        · exact h
        · have h2 := HF.out.eof
          rw [show L.length - 1 = m by omega, at_types, ← HTT.out] at h2
          exact absurd h2 HE.out
      have hc1 : ¬ (m : Int) < (s.raw : Int) := by omega
      have hc2 : ¬ (L.length : Int) ≤ (m : Int) + 1 := by omega
      have hcur : s.cur ≤ 65536 := by have := HI.out.most; omega
      have hrawE : s.raw ≤ L.length - 1 := HI.out.raw
      have hcd : decide (m < s.raw) = false := by simp; omega
      go_wp2_with fail
      go_loopg [18, 19] (m + 1 - s.raw) (fun k cv iv wr => ∃ j cc : Nat, k = m + 1 - j ∧ s.raw ≤ j ∧ j ≤ m + 1 ∧ iv = .int .i64 j ∧ cv = .int .i64 cc ∧ cc ≤ j ∧ Hid (PL.cnt S (types L) j = PL.cnt S (types L) s.raw + cc) ∧ Car w wr pb tb mb c nm L S s.raw s.next s.cur rb (toksCells L) eb en [(b2, 46, #[.int .i64 t.ty, .string t.val, .string t.fn, .int .i64 t.off, .int .i64 t.line, .int .i64 t.col]), (b1, 49, #[.int .i64 s.raw, .int .i64 s.next, .int .i64 s.cur])])
      case atStart => exact ⟨s.raw, 0, rfl, Nat.le_refl _, by omega, rfl, rfl, Nat.zero_le _, Lib.hid (by simp), C11⟩
      case round =>
        obtain ⟨j, cc, hk, hj0, hj1, rfl, rfl, hcj, HCN, C20⟩ := hrel
        have KK := Lib.hid hk; clear hk C11
        by_cases hlt : j ≤ m
        · have hjL : j < L.length := by omega
          obtain ⟨tj, htj⟩ : ∃ x, x = L.getD j eofTok := ⟨_, rfl⟩
          have HTJ := Lib.hid htj
          obtain ⟨e0, e1, e2, e3, e4, e5⟩ := rowTok C20.row HTJ hjL
          have hvis := vis_at S L j
          have hwj : (Lit.int .i64 (L.getD j eofTok).ty).wf = true := HW.out _ (by rw [List.getD_eq_getElem?_getD, List.getElem?_eq_getElem hjL]; exact List.getElem_mem _)
          rw [← htj] at hvis hwj
          have CV := visible_any wr eb en S tj C20.set hwj
          rw [← hvis] at CV
          have CVH := Lib.hid CV
          have HCS := Lib.hid (cnt_succ S (types L) j)
          have hi0 : (0 : Int) ≤ (j : Int) := by omega
          have hi1 : (j : Int) < (L.length : Int) := by omega
          have hi2 : (j : Int) ≤ (m : Int) := by omega
          clear CV hvis hwj htj
          go_wp2_with fail
          refine CVH.out.mono ?_
          rintro e w5 ⟨rfl, hb5⟩
          have C22 := C20.later hb5
          clear CVH e0 e1 e2 e3 e4 e5 hb5 C20
          generalize PL.vis S (types L) j = vb at HCS ⊢
          cases vb
          · have HN : Hid (PL.cnt S (types L) (j + 1) = PL.cnt S (types L) s.raw + cc) := by show _ = _; rw [HCS.out, HCN.out]; simp
            go_wp2_with fail
            go_roundg (m + 1 - (j + 1))
            case measure => rw [KK.out]; omega
            case rel => exact ⟨j + 1, cc, rfl, by omega, by omega, by go_num, rfl, by omega, HN, C22⟩
          · have HN : Hid (PL.cnt S (types L) (j + 1) = PL.cnt S (types L) s.raw + (cc + 1)) := by show _ = _; rw [HCS.out, HCN.out]; simp; omega
            go_wp2_with fail
            go_roundg (m + 1 - (j + 1))
            case measure => rw [KK.out]; omega
            case rel => exact ⟨j + 1, cc + 1, rfl, by omega, by omega, by go_num, by go_num, by omega, HN, C22⟩
        · obtain rfl : j = m + 1 := by omega
          have hne : ¬ ((m : Int) + 1 ≤ (m : Int)) := by omega
          have hs2 : s.ff S (types L) (L.length - 1) (m : Int) = ⟨m + 1, PL.stop S (types L) (m + 1), s.cur + cc⟩ := by
            have h1 : PL.ffRaw (L.length - 1) (m : Int) s.raw = m + 1 := by unfold PL.ffRaw; rw [if_neg (by omega)]; simp; omega
            unfold PL.St.ff
            rw [h1, HCN.out]; congr 1; omega
          have HS2 := Lib.hid hs2
          clear hs2 hlt
          go_wp2_with fail
          refine (ff_any _ pb tb mb c nm L S s (m : Int) C20.lx (L.length - 1) HF.out (by omega) hrawE (by omega) (by omega)).mono ?_
          rw [HS2.out]
          rintro e w6 ⟨rfl, hg6, hx6⟩
          have hstl : PL.stop S (types L) (m + 1) < L.length := by have := HF.out.stop_le (S := S) (n := m + 1) (by omega); omega
          obtain ⟨nx, hnx⟩ : ∃ x, x = PL.stop S (types L) (m + 1) := ⟨_, rfl⟩
          have hx7 : Lx w6 pb tb mb c nm L S ((m : Int) + 1) (nx : Int) ((s.cur : Int) + (cc : Int)) := by rw [hnx]; exact hx6
          have HNS : Hid (∀ W, Row W rb 46 (toksCells L) → BSet Try.prog 42 4 W eb en S → Calls Try.prog 54 #[.slice (some ⟨rb, 0, none⟩) L.length cap, .map (some eb), .int .i64 ((m : Int) + 1)] W fun e w' => e = .returned (.int .i64 nx) ∧ W = w') := fun W h1 h2 => by
            have := nextStop_any W rb eb cap en L S (m + 1) h1 h2 HW.out (by omega) hstl
            rw [← hnx] at this
            exact this
          rw [← hnx] at hstl
          have C23 := C20.grow hg6 hx7 (by simp) hpw
          obtain ⟨t2, ht2⟩ : ∃ x, x = L.getD nx eofTok := ⟨_, rfl⟩
          have HT2 := Lib.hid ht2
          have hi5 : (0 : Int) ≤ (nx : Int) := by omega
          have hi6 : (nx : Int) < (L.length : Int) := by omega
          have hw1 : IntKind.i64.wrap ((m : Int) + 1) = (m : Int) + 1 := wrap_small _ (by omega) (by omega)
          have hw2 : IntKind.i64.wrap ((s.cur : Int) + (cc : Int)) = (s.cur : Int) + (cc : Int) := wrap_small _ (by omega) (by omega)
          clear ht2 hnx hx6 hx7 hg6 C20 HS2 HCN hj0 hj1 KK
          go_wp2_with fail
          go_region_held3 (fun w' => Car w w' pb tb mb c nm L S ((m : Int) + 1) nx ((s.cur : Int) + (cc : Int)) rb (toksCells L) eb en [(b2, 46, #[.int .i64 t.ty, .string t.val, .string t.fn, .int .i64 t.off, .int .i64 t.line, .int .i64 t.col]), (b1, 49, #[.int .i64 s.raw, .int .i64 s.next, .int .i64 s.cur])] ∧ (w'.cell? ⟨b1, 0, none⟩ = some (.int .i64 s.raw) ∧ w'.cell? ⟨b1, 1, none⟩ = some (.int .i64 s.next) ∧ w'.cell? ⟨b1, 2, none⟩ = some (.int .i64 s.cur)) ∧ (w'.cell? ⟨rb, nx * 6, none⟩ = some (.int .i64 t2.ty) ∧ w'.cell? ⟨rb, nx * 6 + 1, none⟩ = some (.string t2.val) ∧ w'.cell? ⟨rb, nx * 6 + 1 + 1, none⟩ = some (.string t2.fn) ∧ w'.cell? ⟨rb, nx * 6 + 1 + 1 + 1, none⟩ = some (.int .i64 t2.off) ∧ w'.cell? ⟨rb, nx * 6 + 1 + 1 + 1 + 1, none⟩ = some (.int .i64 t2.line) ∧ w'.cell? ⟨rb, nx * 6 + 1 + 1 + 1 + 1 + 1, none⟩ = some (.int .i64 t2.col)) ∧ (w'.cell? ⟨tb, nx * 6, none⟩ = some (.int .i64 t2.ty) ∧ w'.cell? ⟨tb, nx * 6 + 1, none⟩ = some (.string t2.val) ∧ w'.cell? ⟨tb, nx * 6 + 1 + 1, none⟩ = some (.string t2.fn) ∧ w'.cell? ⟨tb, nx * 6 + 1 + 1 + 1, none⟩ = some (.int .i64 t2.off) ∧ w'.cell? ⟨tb, nx * 6 + 1 + 1 + 1 + 1, none⟩ = some (.int .i64 t2.line) ∧ w'.cell? ⟨tb, nx * 6 + 1 + 1 + 1 + 1 + 1, none⟩ = some (.int .i64 t2.col)) ∧ w'.cell? ⟨pb, 0, none⟩ = some (.int .i64 ((m : Int) + 1)) ∧ w'.cell? ⟨pb, 1, none⟩ = some (.int .i64 nx) ∧ w'.cell? ⟨pb, 2, none⟩ = some (.int .i64 ((s.cur : Int) + (cc : Int))) ∧ w'.cell? ⟨pb, 3, none⟩ = some (.slice (some ⟨tb, 0, none⟩) L.length c) ∧ w'.cell? ⟨pb, 4, none⟩ = some (.map (some mb)))
            (first | assumption | exact heldF C23.drew (b := b1) (by simp) HT2 hstl | (go_split_ands; exact heldF (Car.later (by assumption) hbl) (b := b1) (by simp) HT2 hstl))
            (first | (go_at_call 22; refine (rawCursor_any _ _ _ _).mono ?_; rintro e w' ⟨rfl, hbl⟩) | (go_at_call 21; refine (cursor_any _ _ _ _).mono ?_; rintro e w' ⟨rfl, hbl⟩) | (go_at_call 25; refine (peek_any _ pb tb mb c nm L S _ _ nx (by go_split_ands; exact Car.lx (by assumption)) hstl).mono ?_; rintro e w' ⟨rfl, q, hwq⟩; have hbl := below_of_drewN hwq; clear hwq) | (go_at_call 54; refine (HNS.out _ (by go_split_ands; exact Car.row (by assumption)) (by go_split_ands; exact Car.set (by assumption))).mono ?_; rintro e w' ⟨rfl, rfl⟩))
          obtain ⟨D9, -⟩ := ‹Car w _ pb tb mb c nm L S ((m : Int) + 1) nx ((s.cur : Int) + (cc : Int)) rb (toksCells L) eb en [(b2, 46, #[.int .i64 t.ty, .string t.val, .string t.fn, .int .i64 t.off, .int .i64 t.line, .int .i64 t.col]), (b1, 49, #[.int .i64 s.raw, .int .i64 s.next, .int .i64 s.cur])] ∧ _›
          go_wp2_with fail
          go_ret
          exact ⟨rfl, D9.bel⟩

end fnPeekAnyFastForward
end Go.Proofs.Ytomfonilbenhbaa
