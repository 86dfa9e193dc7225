/-
  The walk of FnPeekAnyModel: PeekAny answers the nearer of the next stop and the first match, and changes nothing. Conditions: none beyond the statement's own.
-/
import Derived.Test.YtomfonilbenhbaaN9A
import Derived.Test.YtomfonilbenhbaaN9L
namespace Go.Proofs.Ytomfonilbenhbaa
open Go.RowKit
set_option linter.unusedSimpArgs false

theorem heldM {w0 w' : World} {pb tb mb c nm rb eb en b m : Nat} {L : List Tok} {S : Int → Bool} {raw next cur : Int} {fs : List (Nat × TypeId × Array Value)} {t : Tok}
    (C : Car w0 w' pb tb mb c nm L S raw next cur rb (toksCells L) eb en fs) (h : (b, 46, #[.int .i64 t.ty, .string t.val, .string t.fn, .int .i64 t.off, .int .i64 t.line, .int .i64 t.col]) ∈ fs) (HA : Hid (t = L.getD m eofTok)) (hm : m < L.length) : (w'.cell? ⟨b, 0, none⟩ = some (.int .i64 t.ty) ∧ w'.cell? ⟨b, 1, none⟩ = some (.string t.val) ∧ w'.cell? ⟨b, 2, none⟩ = some (.string t.fn) ∧ w'.cell? ⟨b, 3, none⟩ = some (.int .i64 t.off) ∧ w'.cell? ⟨b, 4, none⟩ = some (.int .i64 t.line) ∧ w'.cell? ⟨b, 5, none⟩ = some (.int .i64 t.col)) ∧ (w'.cell? ⟨rb, m * 6, none⟩ = some (.int .i64 t.ty) ∧ w'.cell? ⟨rb, m * 6 + 1, none⟩ = some (.string t.val) ∧ w'.cell? ⟨rb, m * 6 + 1 + 1, none⟩ = some (.string t.fn) ∧ w'.cell? ⟨rb, m * 6 + 1 + 1 + 1, none⟩ = some (.int .i64 t.off) ∧ w'.cell? ⟨rb, m * 6 + 1 + 1 + 1 + 1, none⟩ = some (.int .i64 t.line) ∧ w'.cell? ⟨rb, m * 6 + 1 + 1 + 1 + 1 + 1, none⟩ = some (.int .i64 t.col)) ∧ (w'.cell? ⟨tb, m * 6, none⟩ = some (.int .i64 t.ty) ∧ w'.cell? ⟨tb, m * 6 + 1, none⟩ = some (.string t.val) ∧ w'.cell? ⟨tb, m * 6 + 1 + 1, none⟩ = some (.string t.fn) ∧ w'.cell? ⟨tb, m * 6 + 1 + 1 + 1, none⟩ = some (.int .i64 t.off) ∧ w'.cell? ⟨tb, m * 6 + 1 + 1 + 1 + 1, none⟩ = some (.int .i64 t.line) ∧ w'.cell? ⟨tb, m * 6 + 1 + 1 + 1 + 1 + 1, none⟩ = some (.int .i64 t.col)) := by
  have k := C.blks _ h
  have hr := C.row
  have e0 := hr.cell ((toksCells_at L m 0 (by omega) hm).trans rfl)
  have e1 := hr.cell ((toksCells_at L m 1 (by omega) hm).trans rfl)
  have e2 := hr.cell ((toksCells_at L m 2 (by omega) hm).trans rfl)
  have e3 := hr.cell ((toksCells_at L m 3 (by omega) hm).trans rfl)
  have e4 := hr.cell ((toksCells_at L m 4 (by omega) hm).trans rfl)
  have e5 := hr.cell ((toksCells_at L m 5 (by omega) hm).trans rfl)
  rw [← HA.out] at e0 e1 e2 e3 e4 e5
  obtain ⟨a0, a1, a2, a3, a4, a5⟩ := C.lx.tok hm
  rw [← HA.out] at a0 a1 a2 a3 a4 a5
  exact ⟨⟨k.cell 0, k.cell 1, k.cell 2, k.cell 3, k.cell 4, k.cell 5⟩, ⟨e0, e1, e2, e3, e4, e5⟩, ⟨a0, a1, a2, a3, a4, a5⟩⟩

theorem heldQ {w0 w' : World} {pb tb mb c nm rb eb en b m : Nat} {L : List Tok} {S : Int → Bool} {raw next cur : Int} {fs : List (Nat × TypeId × Array Value)} {t : Tok}
    (C : Car w0 w' pb tb mb c nm L S raw next cur rb (toksCells L) eb en fs) (h : (b, 46, #[.int .i64 t.ty, .string t.val, .string t.fn, .int .i64 t.off, .int .i64 t.line, .int .i64 t.col]) ∈ fs) (HA : Hid (t = L.getD m eofTok)) (hm : m < L.length) :
    Car w0 w' pb tb mb c nm L S raw next cur rb (toksCells L) eb en fs ∧ (w'.cell? ⟨b, 0, none⟩ = some (.int .i64 t.ty) ∧ w'.cell? ⟨b, 1, none⟩ = some (.string t.val) ∧ w'.cell? ⟨b, 2, none⟩ = some (.string t.fn) ∧ w'.cell? ⟨b, 3, none⟩ = some (.int .i64 t.off) ∧ w'.cell? ⟨b, 4, none⟩ = some (.int .i64 t.line) ∧ w'.cell? ⟨b, 5, none⟩ = some (.int .i64 t.col)) ∧ (w'.cell? ⟨tb, m * 6, none⟩ = some (.int .i64 t.ty) ∧ w'.cell? ⟨tb, m * 6 + 1, none⟩ = some (.string t.val) ∧ w'.cell? ⟨tb, m * 6 + 1 + 1, none⟩ = some (.string t.fn) ∧ w'.cell? ⟨tb, m * 6 + 1 + 1 + 1, none⟩ = some (.int .i64 t.off) ∧ w'.cell? ⟨tb, m * 6 + 1 + 1 + 1 + 1, none⟩ = some (.int .i64 t.line) ∧ w'.cell? ⟨tb, m * 6 + 1 + 1 + 1 + 1 + 1, none⟩ = some (.int .i64 t.col)) ∧ w'.cell? ⟨pb, 0, none⟩ = some (.int .i64 raw) ∧ w'.cell? ⟨pb, 1, none⟩ = some (.int .i64 next) ∧ w'.cell? ⟨pb, 2, none⟩ = some (.int .i64 cur) ∧ w'.cell? ⟨pb, 3, none⟩ = some (.slice (some ⟨tb, 0, none⟩) L.length c) ∧ w'.cell? ⟨pb, 4, none⟩ = some (.map (some mb)) := by
  obtain ⟨h1, -, h3⟩ := heldM C h HA hm
  obtain ⟨c0, c1, c2, c3, c4⟩ := C.lx.cells
  exact ⟨C, h1, h3, c0, c1, c2, c3, c4⟩

namespace fnPeekAnyModel
set_option maxHeartbeats 8000000 in
set_option maxRecDepth 100000 in
theorem walk (A0 : Option Addr) (n0 c0 : Nat) (z0 : List Int) (A1 : Option Addr) (n1 c1 : Nat) (z1 : List ByteArray) (A2 : Option Addr) (n2 c2 : Nat) (z2 : List Int) (k : Int) (q : Int) (w : World)
    (ht : Ints .i64 w A0 n0 z0) (hv : Strs w A1 n1 z1) (he : Ints .i64 w A2 n2 z2) (_ : (Lit.int .i64 k).wf = true) (_ : (Lit.int .i64 q).wf = true) :
    Calls Try.prog 12 #[.slice A0 n0 c0, .slice A1 n1 c1, .slice A2 n2 c2, .int .i64 k, .int .i64 q] w fun e w' => e = .returned (.bool true) ∧ Below w.heap.size w w' := by
  have hm0 := ht.2.1
  have hm1 := hv.2.1
  have hm2 := he.2.1
  have HT := Lib.hid ht; clear ht
  have HV := Lib.hid hv; clear hv
  have HE := Lib.hid he; clear he
  by_cases hsmall : n0 ≤ 65536 ∧ n1 ≤ 65536 ∧ n2 ≤ 65536 ∧ 0 ≤ k ∧ k ≤ 65536 ∧ 0 ≤ q ∧ q ≤ 2
  case neg =>
    go_enter Try.func12, Try.ntmps12
    go_wp2_with fail
    refine (zzPeekAnyModel A0 n0 c0 A1 n1 c1 z1 A2 n2 c2 k q _ HV.out hm0 hm2).mono ?_
    rintro e w1 ⟨b, rfl, rfl⟩
    unfold maxLen at hm0 hm1 hm2
    cases b
    · go_wp2_with fail
      go_ret
      exact ⟨rfl, Below.refl _ _⟩
    · by_cases hs3 : n0 ≤ 65536 ∧ n1 ≤ 65536 ∧ n2 ≤ 65536
      · obtain ⟨hs0, hs1, hs2⟩ := hs3
        go_wp2_with fail
        refine (bytesOK_any A0 n0 c0 A1 n1 c1 z1 A2 n2 c2 _ HV.out hs0 hs1 hs2).mono ?_
        rintro e w1 ⟨b, rfl, rfl⟩
        cases b
        · go_wp2_with fail
          go_ret
          exact ⟨rfl, Below.refl _ _⟩
        · go_wp2_with fail
          all_goals first | (exfalso; omega) | (go_ret; exact ⟨rfl, Below.refl _ _⟩)
      · go_wp2_with fail
        all_goals first | (exfalso; omega) | (go_ret; exact ⟨rfl, Below.refl _ _⟩)
  case pos =>
    obtain ⟨hs0, hs1, hs2, hk0, hk1, hk2, hk3⟩ := hsmall
    have hF : PL.First (types (b6Toks z0 z1)) ((b6Toks z0 z1).length - 1) := b6Go_first z1 z0 0
    have hw := b6Go_wf z1 z0 0 HT.out.2.2.1
    have hlen : 0 < (b6Toks z0 z1).length ∧ (b6Toks z0 z1).length ≤ z0.length + 1 := b6Go_length z1 z0 0
    rw [HT.out.1] at hlen
    obtain ⟨hle0, hle1⟩ := hlen
    have HW : Hid (∀ t ∈ b6Toks z0 z1, (Lit.int .i64 t.ty).wf = true) := hw; clear hw
    have htoks := fun W hb => toks_any A0 n0 c0 z0 A1 n1 c1 z1 W (HT.out.later hb) (HV.out.later hb) hs0 hs1
    have helide := fun W hb => elide_any A2 n2 c2 z2 W (HE.out.later hb) hs2
    have hfresh := fun W hb => fresh_any A0 n0 c0 z0 A1 n1 c1 z1 A2 n2 c2 z2 k W (HT.out.later hb) (HV.out.later hb) (HE.out.later hb) hs0 hs1 hs2 (by omega) (by omega)
    generalize b6Toks z0 z1 = L at *
    generalize inS z2 = S at *
    have hI := PL.inv_run (S := S) hF (k).toNat
    generalize (PL.fresh S (types L)).run S (types L) (k).toNat = s at *
    have HF := Lib.hid hF; clear hF
    have HI := Lib.hid hI; clear hI
    have HTK := Lib.hid htoks; clear htoks
    have HEL := Lib.hid helide; clear helide
    have HFR := Lib.hid hfresh; clear hfresh
    go_enter Try.func12, Try.ntmps12
    go_wp2_with fail
    refine (zzPeekAnyModel A0 n0 c0 A1 n1 c1 z1 A2 n2 c2 k q _ HV.out hm0 hm2).mono ?_
    rintro e w1 ⟨b, rfl, rfl⟩
    unfold maxLen at hm0 hm1 hm2
    cases b
    · go_wp2_with fail
      go_ret
      exact ⟨rfl, Below.refl _ _⟩
    go_wp2_with fail
    refine (bytesOK_any A0 n0 c0 A1 n1 c1 z1 A2 n2 c2 _ HV.out hs0 hs1 hs2).mono ?_
    rintro e w1 ⟨b, rfl, rfl⟩
    cases b
    · go_wp2_with fail
      go_ret
      exact ⟨rfl, Below.refl _ _⟩
    go_wp2_with fail
    refine (HTK.out _ (Below.refl _ _)).mono ?_
    rintro e w1 ⟨rb, cap, rfl, hrb, hrow, hb1⟩
    go_wp2_with fail
    refine (HEL.out _ hb1).mono ?_
    rintro e w2 ⟨eb, en, rfl, heb, hset, hb2⟩
    have hrow2 := hrow.later hb2
    have hb2' := below_next hb2 hb1
    clear hrow hb2
    go_wp2_with fail
    refine (HFR.out _ hb2').mono ?_
    rintro e w3 ⟨pb, tb, mb, c, nm, rfl, hpb, htb, hmb, hx, hb3⟩
    have hrow3 := hrow2.later hb3
    have hset3 := hset.later hb3
    have hb3' := below_next hb3 hb2'
    have hpw : w.heap.size ≤ pb := Nat.le_trans hb2'.size hpb
    clear hrow2 hset hb3 hb1 hb2'
    go_wp2_with fail
    have C0 : Car w w3 pb tb mb c nm L S s.raw s.next s.cur rb (toksCells L) eb en [] := ⟨hx, hrow3, hset3, Blks.nil _, hb3'⟩
    clear hx hrow3 hset3 hb3'
    have hn1 : s.next < L.length := by have := HI.out.le; omega
    have hr1 : s.raw < L.length := by have := HI.out.raw; omega
    have hnx : PL.stop S (types L) s.raw = s.next := HI.out.next.symm
    have HNX := Lib.hid hnx; clear hnx
    refine (make_any _ pb tb mb c nm L S _ _ _ C0.lx).mono ?_
    rintro e w1 ⟨rfl, hb2⟩
    have C3 : Car w w1 pb tb mb c nm L S s.raw s.next s.cur rb (toksCells L) eb en [] := C0.later hb2
    clear C0 hb2
    go_wp2_with fail
    have C4 := C3.alloc #[.int .i64 s.raw, .int .i64 s.next, .int .i64 s.cur] 49
    obtain ⟨b1, eb1⟩ : ∃ b, b = w1.heap.size := ⟨_, rfl⟩
    obtain ⟨W5, eW5⟩ : ∃ W, W = w1.alloc (.cells #[.int .i64 s.raw, .int .i64 s.next, .int .i64 s.cur] 49) := ⟨_, rfl⟩
    rw [← eb1] at C4 ⊢
    rw [← eW5] at C4 ⊢
    clear C3 eb1 eW5
    refine (selAny_any q hk2 hk3 _ pb tb mb c nm L S s.raw _ _ C4.lx (by rw [HNX.out]; exact hn1)).mono ?_
    rintro e wA ⟨m, t, ht, rfl, hm0, hm1, hall, hst, hbA⟩
    have HTT := Lib.hid ht; clear ht
    have HA := Lib.hid hall; clear hall
    have HST := Lib.hid hst; clear hst
    have C6 : Car w wA pb tb mb c nm L S s.raw s.next s.cur rb (toksCells L) eb en [(b1, 49, #[.int .i64 s.raw, .int .i64 s.next, .int .i64 s.cur])] := C4.later hbA
    clear C4 hbA
    have kk := C6.blks (b1, 49, #[.int .i64 s.raw, .int .i64 s.next, .int .i64 s.cur]) (by simp)
    have l0 := kk.cell 0
    have l1 := kk.cell 1
    have l2 := kk.cell 2
    simp at l0 l1 l2
    clear kk
    have ll := (C6.blks (b1, 49, #[.int .i64 s.raw, .int .i64 s.next, .int .i64 s.cur]) (by simp)).lt
    go_wp2_with fail
    clear l0 l1 l2 ll
    have C7 := C6.alloc #[.int .i64 t.ty, .string t.val, .string t.fn, .int .i64 t.off, .int .i64 t.line, .int .i64 t.col] 46
    obtain ⟨b2, eb2⟩ : ∃ b, b = wA.heap.size := ⟨_, rfl⟩
    obtain ⟨W8, eW8⟩ : ∃ W, W = wA.alloc (.cells #[.int .i64 t.ty, .string t.val, .string t.fn, .int .i64 t.off, .int .i64 t.line, .int .i64 t.col] 46) := ⟨_, rfl⟩
    rw [← eb2] at C7 ⊢
    rw [← eW8] at C7 ⊢
    clear C6 eb2 eW8
    refine (rawCursor_any _ _ _ _).mono ?_
    rintro e wB ⟨rfl, hbB⟩
    have C9 : Car w wB pb tb mb c nm L S s.raw s.next s.cur rb (toksCells L) eb en [(b2, 46, #[.int .i64 t.ty, .string t.val, .string t.fn, .int .i64 t.off, .int .i64 t.line, .int .i64 t.col]), (b1, 49, #[.int .i64 s.raw, .int .i64 s.next, .int .i64 s.cur])] := C7.later hbB
    clear C7 hbB
    go_wp2_with fail
    refine (nextStop_any _ rb eb cap en L S s.raw C9.row C9.set HW.out (by omega) (by rw [HNX.out]; exact hn1)).mono ?_
    rintro e wC ⟨rfl, rfl⟩
    rw [HNX.out]
    go_wp2_with fail
    refine (firstMatch_any _ rb cap L q s.raw C9.row (by omega) (by omega)).mono ?_
    rintro e wD ⟨f, rfl, hf0, hf1, hfa, hfm, hbD⟩
    have C10 : Car w wD pb tb mb c nm L S s.raw s.next s.cur rb (toksCells L) eb en [(b2, 46, #[.int .i64 t.ty, .string t.val, .string t.fn, .int .i64 t.off, .int .i64 t.line, .int .i64 t.col]), (b1, 49, #[.int .i64 s.raw, .int .i64 s.next, .int .i64 s.cur])] := C9.later hbD
    clear C9 hbD
    have hmm := any_is hm0 HA.out (by have := HST.out; rw [HTT.out] at this; exact this) hf0 hfa hfm (by rw [HNX.out]; exact hn1)
    rw [HNX.out] at hmm
    have HMM := Lib.hid hmm; clear hmm hfa
    have HFM := Lib.hid hfm; clear hfm
    have hbig : (m : Int) < (L.length : Int) := by omega
    have hbi0 : (0 : Int) ≤ (m : Int) := by omega
    have hfin : ∀ v : Int, v = (m : Int) → True := fun _ _ => trivial
    clear hfin
    by_cases hlt : f < s.next
    · have hlt2 : (f : Int) < (s.next : Int) := by omega
      have hme : m = f := by rw [HMM.out, if_pos hlt]
      clear HMM
      subst hme
      go_wp2_with fail
      go_region_held3 (fun w' => (w'.cell? ⟨b2, 0, none⟩ = some (.int .i64 t.ty) ∧ w'.cell? ⟨b2, 1, none⟩ = some (.string t.val) ∧ w'.cell? ⟨b2, 2, none⟩ = some (.string t.fn) ∧ w'.cell? ⟨b2, 3, none⟩ = some (.int .i64 t.off) ∧ w'.cell? ⟨b2, 4, none⟩ = some (.int .i64 t.line) ∧ w'.cell? ⟨b2, 5, none⟩ = some (.int .i64 t.col)) ∧ (w'.cell? ⟨rb, m * 6, none⟩ = some (.int .i64 t.ty) ∧ w'.cell? ⟨rb, m * 6 + 1, none⟩ = some (.string t.val) ∧ w'.cell? ⟨rb, m * 6 + 1 + 1, none⟩ = some (.string t.fn) ∧ w'.cell? ⟨rb, m * 6 + 1 + 1 + 1, none⟩ = some (.int .i64 t.off) ∧ w'.cell? ⟨rb, m * 6 + 1 + 1 + 1 + 1, none⟩ = some (.int .i64 t.line) ∧ w'.cell? ⟨rb, m * 6 + 1 + 1 + 1 + 1 + 1, none⟩ = some (.int .i64 t.col)))
        (first | assumption | exact ⟨(heldM C10.drew (b := b2) (by simp) HTT hm1).1, (heldM C10.drew (b := b2) (by simp) HTT hm1).2.1⟩)
        (fail)
      have D1 := C10.drew
      clear C10
      go_wp2_with fail
      go_region_held3 (fun w' => w'.cell? ⟨b1, 0, none⟩ = some (.int .i64 s.raw) ∧ w'.cell? ⟨b1, 1, none⟩ = some (.int .i64 s.next) ∧ w'.cell? ⟨b1, 2, none⟩ = some (.int .i64 s.cur))
        (first | assumption | exact heldE D1.drew (by simp) | exact heldE D2 (by simp))
        (first | (go_at_call 34; refine (make_any _ pb tb mb c nm L S _ _ _ D1.drew.lx).mono ?_; rintro e w8 ⟨rfl, hb8⟩; have D2 := D1.drew.later hb8; clear hb8))
      clear D1
      have hq : q = 0 ∨ q = 1 ∨ q = 2 := by omega
      rcases hq with rfl | rfl | rfl
      · exfalso
        have hx := HFM.out (by omega)
        simp [mSel, mNever] at hx
      · have hms : m = s.raw := by
          rcases Nat.lt_or_ge s.raw m with h | h
          · have := (HA.out s.raw (Nat.le_refl _) h).2
            simp [mSel, mAlways] at this
          · omega
        have HTR : Hid (t = L.getD s.raw eofTok) := Lib.hid (by rw [← hms]; exact HTT.out)
        rw [hms]
        clear hms
        go_wp2_with fail
        refine wp_region_held_drew (S := (fun _ => True)) (by kernel_rfl) trivial (fun hHeld => ?_)
        clear hHeld
        refine wpAnyH_take (i := 0) (v := ?_) rfl (by kernel_rfl) (by kernel_rfl) (by kernel_rfl) (fun _ _ _ h => h) (Or.inl ⟨by rfl, ?_⟩) (by trivial) ?_
        rotate_left
        · (intro w hSw; go_simp; try (with_reducible rfl))
        try simp only [Act.put, List.getElem_toArray, List.getElem_cons_zero, List.getElem_cons_succ, List.setIfInBounds_toArray, List.set_cons_zero, List.set_cons_succ]
        refine wpAnyH_take (i := 1) (v := ?_) rfl (by kernel_rfl) (by kernel_rfl) (by kernel_rfl) (fun _ _ _ h => h) (Or.inl ⟨by rfl, ?_⟩) (by trivial) ?_
        rotate_left
        · (intro w hSw; go_simp; try (with_reducible rfl))
        try simp only [Act.put, List.getElem_toArray, List.getElem_cons_zero, List.getElem_cons_succ, List.setIfInBounds_toArray, List.set_cons_zero, List.set_cons_succ]
        refine wpAnyH_take (i := 2) (v := ?_) rfl (by kernel_rfl) (by kernel_rfl) (by kernel_rfl) (fun _ _ _ h => h) (Or.inl ⟨by rfl, ?_⟩) (by trivial) ?_
        rotate_left
        · (intro w hSw; go_simp; try (with_reducible rfl))
        try simp only [Act.put, List.getElem_toArray, List.getElem_cons_zero, List.getElem_cons_succ, List.setIfInBounds_toArray, List.set_cons_zero, List.set_cons_succ]
        refine wpAnyH_take (i := 3) (v := undef) rfl (by kernel_rfl) (by kernel_rfl) (by kernel_rfl) (fun _ _ _ h => h) (Or.inr ⟨by rfl, rfl⟩) (by trivial) ?_
        try simp only [Act.put, List.getElem_toArray, List.getElem_cons_zero, List.getElem_cons_succ, List.setIfInBounds_toArray, List.set_cons_zero, List.set_cons_succ]
        refine wpAnyH_take (i := 4) (v := undef) rfl (by kernel_rfl) (by kernel_rfl) (by kernel_rfl) (fun _ _ _ h => h) (Or.inr ⟨by rfl, rfl⟩) (by trivial) ?_
        try simp only [Act.put, List.getElem_toArray, List.getElem_cons_zero, List.getElem_cons_succ, List.setIfInBounds_toArray, List.set_cons_zero, List.set_cons_succ]
        refine wpAnyH_take (i := 5) (v := undef) rfl (by kernel_rfl) (by kernel_rfl) (by kernel_rfl) (fun _ _ _ h => h) (Or.inr ⟨by rfl, rfl⟩) (by trivial) ?_
        try simp only [Act.put, List.getElem_toArray, List.getElem_cons_zero, List.getElem_cons_succ, List.setIfInBounds_toArray, List.set_cons_zero, List.set_cons_succ]
        refine wpAnyH_take (i := 6) (v := undef) rfl (by kernel_rfl) (by kernel_rfl) (by kernel_rfl) (fun _ _ _ h => h) (Or.inr ⟨by rfl, rfl⟩) (by trivial) ?_
        try simp only [Act.put, List.getElem_toArray, List.getElem_cons_zero, List.getElem_cons_succ, List.setIfInBounds_toArray, List.set_cons_zero, List.set_cons_succ]
        refine wpAnyH_take (i := 7) (v := undef) rfl (by kernel_rfl) (by kernel_rfl) (by kernel_rfl) (fun _ _ _ h => h) (Or.inr ⟨by rfl, rfl⟩) (by trivial) ?_
        try simp only [Act.put, List.getElem_toArray, List.getElem_cons_zero, List.getElem_cons_succ, List.setIfInBounds_toArray, List.set_cons_zero, List.set_cons_succ]
        refine wpAnyH_take (i := 8) (v := undef) rfl (by kernel_rfl) (by kernel_rfl) (by kernel_rfl) (fun _ _ _ h => h) (Or.inr ⟨by rfl, rfl⟩) (by trivial) ?_
        try simp only [Act.put, List.getElem_toArray, List.getElem_cons_zero, List.getElem_cons_succ, List.setIfInBounds_toArray, List.set_cons_zero, List.set_cons_succ]
        refine wpAnyH_take (i := 9) (v := ?_) rfl (by kernel_rfl) (by kernel_rfl) (by kernel_rfl) (fun _ _ _ h => h) (Or.inl ⟨by rfl, ?_⟩) (by trivial) ?_
        rotate_left
        · (intro w hSw; go_simp; try (with_reducible rfl))
        try simp only [Act.put, List.getElem_toArray, List.getElem_cons_zero, List.getElem_cons_succ, List.setIfInBounds_toArray, List.set_cons_zero, List.set_cons_succ]
        refine wpAnyH_done (by kernel_rfl) ?_ _
        go_wp2_with fail
        have D4 := D2.drew
        clear D2
        go_region_held3 (fun w' => Car w w' pb tb mb c nm L S s.raw s.next s.cur rb (toksCells L) eb en [(b2, 46, #[.int .i64 t.ty, .string t.val, .string t.fn, .int .i64 t.off, .int .i64 t.line, .int .i64 t.col]), (b1, 49, #[.int .i64 s.raw, .int .i64 s.next, .int .i64 s.cur])] ∧ (w'.cell? ⟨b2, 0, none⟩ = some (.int .i64 t.ty) ∧ w'.cell? ⟨b2, 1, none⟩ = some (.string t.val) ∧ w'.cell? ⟨b2, 2, none⟩ = some (.string t.fn) ∧ w'.cell? ⟨b2, 3, none⟩ = some (.int .i64 t.off) ∧ w'.cell? ⟨b2, 4, none⟩ = some (.int .i64 t.line) ∧ w'.cell? ⟨b2, 5, none⟩ = some (.int .i64 t.col)) ∧ (w'.cell? ⟨tb, s.raw * 6, none⟩ = some (.int .i64 t.ty) ∧ w'.cell? ⟨tb, s.raw * 6 + 1, none⟩ = some (.string t.val) ∧ w'.cell? ⟨tb, s.raw * 6 + 1 + 1, none⟩ = some (.string t.fn) ∧ w'.cell? ⟨tb, s.raw * 6 + 1 + 1 + 1, none⟩ = some (.int .i64 t.off) ∧ w'.cell? ⟨tb, s.raw * 6 + 1 + 1 + 1 + 1, none⟩ = some (.int .i64 t.line) ∧ w'.cell? ⟨tb, s.raw * 6 + 1 + 1 + 1 + 1 + 1, none⟩ = some (.int .i64 t.col)) ∧ w'.cell? ⟨pb, 0, none⟩ = some (.int .i64 s.raw) ∧ w'.cell? ⟨pb, 1, none⟩ = some (.int .i64 s.next) ∧ w'.cell? ⟨pb, 2, none⟩ = some (.int .i64 s.cur) ∧ w'.cell? ⟨pb, 3, none⟩ = some (.slice (some ⟨tb, 0, none⟩) L.length c) ∧ w'.cell? ⟨pb, 4, none⟩ = some (.map (some mb)))
          (first | assumption | exact heldQ D4.drew (b := b2) (by simp) HTR hr1 | (go_split_ands; exact heldQ (Car.later (by assumption) hbl) (b := b2) (by simp) HTR hr1))
          (first | (go_at_call 25; refine (peek_any _ pb tb mb c nm L S _ _ s.next (by go_split_ands; exact Car.lx (by assumption)) hn1).mono ?_; rintro e w' ⟨rfl, q, hwq⟩; have hbl := below_of_drewN hwq; clear hwq) | (go_at_call 24; refine (rawPeek_any _ pb tb mb c nm L S _ _ s.raw (by go_split_ands; exact Car.lx (by assumption)) hr1).mono ?_; rintro e w' ⟨rfl, q, hwq⟩; have hbl := below_of_drewN hwq; clear hwq) | (go_at_call 22; refine (rawCursor_any _ _ _ _).mono ?_; rintro e w' ⟨rfl, hbl⟩))
        obtain ⟨D3, -⟩ := ‹Car w _ pb tb mb c nm L S s.raw s.next s.cur rb (toksCells L) eb en [(b2, 46, #[.int .i64 t.ty, .string t.val, .string t.fn, .int .i64 t.off, .int .i64 t.line, .int .i64 t.col]), (b1, 49, #[.int .i64 s.raw, .int .i64 s.next, .int .i64 s.cur])] ∧ _›
        go_wp2_with fail
        go_ret
        exact ⟨rfl, D3.bel⟩
      · go_wp2_with fail
        refine wp_region_held_drew (S := (fun _ => True)) (by kernel_rfl) trivial (fun hHeld => ?_)
        clear hHeld
        refine wpAnyH_take (i := 0) (v := ?_) rfl (by kernel_rfl) (by kernel_rfl) (by kernel_rfl) (fun _ _ _ h => h) (Or.inl ⟨by rfl, ?_⟩) (by trivial) ?_
        rotate_left
        · (intro w hSw; go_simp; try (with_reducible rfl))
        try simp only [Act.put, List.getElem_toArray, List.getElem_cons_zero, List.getElem_cons_succ, List.setIfInBounds_toArray, List.set_cons_zero, List.set_cons_succ]
        refine wpAnyH_take (i := 1) (v := ?_) rfl (by kernel_rfl) (by kernel_rfl) (by kernel_rfl) (fun _ _ _ h => h) (Or.inl ⟨by rfl, ?_⟩) (by trivial) ?_
        rotate_left
        · (intro w hSw; go_simp; try (with_reducible rfl))
        try simp only [Act.put, List.getElem_toArray, List.getElem_cons_zero, List.getElem_cons_succ, List.setIfInBounds_toArray, List.set_cons_zero, List.set_cons_succ]
        refine wpAnyH_take (i := 2) (v := ?_) rfl (by kernel_rfl) (by kernel_rfl) (by kernel_rfl) (fun _ _ _ h => h) (Or.inl ⟨by rfl, ?_⟩) (by trivial) ?_
        rotate_left
        · (intro w hSw; go_simp; try (with_reducible rfl))
        try simp only [Act.put, List.getElem_toArray, List.getElem_cons_zero, List.getElem_cons_succ, List.setIfInBounds_toArray, List.set_cons_zero, List.set_cons_succ]
        refine wpAnyH_take (i := 3) (v := undef) rfl (by kernel_rfl) (by kernel_rfl) (by kernel_rfl) (fun _ _ _ h => h) (Or.inr ⟨by rfl, rfl⟩) (by trivial) ?_
        try simp only [Act.put, List.getElem_toArray, List.getElem_cons_zero, List.getElem_cons_succ, List.setIfInBounds_toArray, List.set_cons_zero, List.set_cons_succ]
        refine wpAnyH_take (i := 4) (v := undef) rfl (by kernel_rfl) (by kernel_rfl) (by kernel_rfl) (fun _ _ _ h => h) (Or.inr ⟨by rfl, rfl⟩) (by trivial) ?_
        try simp only [Act.put, List.getElem_toArray, List.getElem_cons_zero, List.getElem_cons_succ, List.setIfInBounds_toArray, List.set_cons_zero, List.set_cons_succ]
        refine wpAnyH_take (i := 5) (v := undef) rfl (by kernel_rfl) (by kernel_rfl) (by kernel_rfl) (fun _ _ _ h => h) (Or.inr ⟨by rfl, rfl⟩) (by trivial) ?_
        try simp only [Act.put, List.getElem_toArray, List.getElem_cons_zero, List.getElem_cons_succ, List.setIfInBounds_toArray, List.set_cons_zero, List.set_cons_succ]
        refine wpAnyH_take (i := 6) (v := undef) rfl (by kernel_rfl) (by kernel_rfl) (by kernel_rfl) (fun _ _ _ h => h) (Or.inr ⟨by rfl, rfl⟩) (by trivial) ?_
        try simp only [Act.put, List.getElem_toArray, List.getElem_cons_zero, List.getElem_cons_succ, List.setIfInBounds_toArray, List.set_cons_zero, List.set_cons_succ]
        refine wpAnyH_take (i := 7) (v := undef) rfl (by kernel_rfl) (by kernel_rfl) (by kernel_rfl) (fun _ _ _ h => h) (Or.inr ⟨by rfl, rfl⟩) (by trivial) ?_
        try simp only [Act.put, List.getElem_toArray, List.getElem_cons_zero, List.getElem_cons_succ, List.setIfInBounds_toArray, List.set_cons_zero, List.set_cons_succ]
        refine wpAnyH_take (i := 8) (v := undef) rfl (by kernel_rfl) (by kernel_rfl) (by kernel_rfl) (fun _ _ _ h => h) (Or.inr ⟨by rfl, rfl⟩) (by trivial) ?_
        try simp only [Act.put, List.getElem_toArray, List.getElem_cons_zero, List.getElem_cons_succ, List.setIfInBounds_toArray, List.set_cons_zero, List.set_cons_succ]
        refine wpAnyH_take (i := 9) (v := ?_) rfl (by kernel_rfl) (by kernel_rfl) (by kernel_rfl) (fun _ _ _ h => h) (Or.inl ⟨by rfl, ?_⟩) (by trivial) ?_
        rotate_left
        · (intro w hSw; go_simp; try (with_reducible rfl))
        try simp only [Act.put, List.getElem_toArray, List.getElem_cons_zero, List.getElem_cons_succ, List.setIfInBounds_toArray, List.set_cons_zero, List.set_cons_succ]
        refine wpAnyH_done (by kernel_rfl) ?_ _
        go_wp2_with fail
        refine wp_region_held_drew (S := (fun _ => True)) (by kernel_rfl) trivial (fun hHeld => ?_)
        clear hHeld
        refine wpAnyH_take (i := 0) (v := ?_) rfl (by kernel_rfl) (by kernel_rfl) (by kernel_rfl) (fun _ _ _ h => h) (Or.inl ⟨by rfl, ?_⟩) (by trivial) ?_
        rotate_left
        · (intro w hSw; go_simp; try (with_reducible rfl))
        try simp only [Act.put, List.getElem_toArray, List.getElem_cons_zero, List.getElem_cons_succ, List.setIfInBounds_toArray, List.set_cons_zero, List.set_cons_succ]
        refine wpAnyH_take (i := 1) (v := ?_) rfl (by kernel_rfl) (by kernel_rfl) (by kernel_rfl) (fun _ _ _ h => h) (Or.inl ⟨by rfl, ?_⟩) (by trivial) ?_
        rotate_left
        · (intro w hSw; go_simp; try (with_reducible rfl))
        try simp only [Act.put, List.getElem_toArray, List.getElem_cons_zero, List.getElem_cons_succ, List.setIfInBounds_toArray, List.set_cons_zero, List.set_cons_succ]
        refine wpAnyH_take (i := 2) (v := ?_) rfl (by kernel_rfl) (by kernel_rfl) (by kernel_rfl) (fun _ _ _ h => h) (Or.inl ⟨by rfl, ?_⟩) (by trivial) ?_
        rotate_left
        · (intro w hSw; go_simp; try (with_reducible rfl))
        try simp only [Act.put, List.getElem_toArray, List.getElem_cons_zero, List.getElem_cons_succ, List.setIfInBounds_toArray, List.set_cons_zero, List.set_cons_succ]
        refine wpAnyH_take (i := 3) (v := undef) rfl (by kernel_rfl) (by kernel_rfl) (by kernel_rfl) (fun _ _ _ h => h) (Or.inr ⟨by rfl, rfl⟩) (by trivial) ?_
        try simp only [Act.put, List.getElem_toArray, List.getElem_cons_zero, List.getElem_cons_succ, List.setIfInBounds_toArray, List.set_cons_zero, List.set_cons_succ]
        refine wpAnyH_take (i := 4) (v := undef) rfl (by kernel_rfl) (by kernel_rfl) (by kernel_rfl) (fun _ _ _ h => h) (Or.inr ⟨by rfl, rfl⟩) (by trivial) ?_
        try simp only [Act.put, List.getElem_toArray, List.getElem_cons_zero, List.getElem_cons_succ, List.setIfInBounds_toArray, List.set_cons_zero, List.set_cons_succ]
        refine wpAnyH_take (i := 5) (v := undef) rfl (by kernel_rfl) (by kernel_rfl) (by kernel_rfl) (fun _ _ _ h => h) (Or.inr ⟨by rfl, rfl⟩) (by trivial) ?_
        try simp only [Act.put, List.getElem_toArray, List.getElem_cons_zero, List.getElem_cons_succ, List.setIfInBounds_toArray, List.set_cons_zero, List.set_cons_succ]
        refine wpAnyH_take (i := 6) (v := undef) rfl (by kernel_rfl) (by kernel_rfl) (by kernel_rfl) (fun _ _ _ h => h) (Or.inr ⟨by rfl, rfl⟩) (by trivial) ?_
        try simp only [Act.put, List.getElem_toArray, List.getElem_cons_zero, List.getElem_cons_succ, List.setIfInBounds_toArray, List.set_cons_zero, List.set_cons_succ]
        refine wpAnyH_take (i := 7) (v := undef) rfl (by kernel_rfl) (by kernel_rfl) (by kernel_rfl) (fun _ _ _ h => h) (Or.inr ⟨by rfl, rfl⟩) (by trivial) ?_
        try simp only [Act.put, List.getElem_toArray, List.getElem_cons_zero, List.getElem_cons_succ, List.setIfInBounds_toArray, List.set_cons_zero, List.set_cons_succ]
        refine wpAnyH_take (i := 8) (v := undef) rfl (by kernel_rfl) (by kernel_rfl) (by kernel_rfl) (fun _ _ _ h => h) (Or.inr ⟨by rfl, rfl⟩) (by trivial) ?_
        try simp only [Act.put, List.getElem_toArray, List.getElem_cons_zero, List.getElem_cons_succ, List.setIfInBounds_toArray, List.set_cons_zero, List.set_cons_succ]
        refine wpAnyH_take (i := 9) (v := undef) rfl (by kernel_rfl) (by kernel_rfl) (by kernel_rfl) (fun _ _ _ h => h) (Or.inr ⟨by rfl, rfl⟩) (by trivial) ?_
        try simp only [Act.put, List.getElem_toArray, List.getElem_cons_zero, List.getElem_cons_succ, List.setIfInBounds_toArray, List.set_cons_zero, List.set_cons_succ]
        refine wpAnyH_take (i := 10) (v := undef) rfl (by kernel_rfl) (by kernel_rfl) (by kernel_rfl) (fun _ _ _ h => h) (Or.inr ⟨by rfl, rfl⟩) (by trivial) ?_
        try simp only [Act.put, List.getElem_toArray, List.getElem_cons_zero, List.getElem_cons_succ, List.setIfInBounds_toArray, List.set_cons_zero, List.set_cons_succ]
        refine wpAnyH_take (i := 11) (v := undef) rfl (by kernel_rfl) (by kernel_rfl) (by kernel_rfl) (fun _ _ _ h => h) (Or.inr ⟨by rfl, rfl⟩) (by trivial) ?_
        try simp only [Act.put, List.getElem_toArray, List.getElem_cons_zero, List.getElem_cons_succ, List.setIfInBounds_toArray, List.set_cons_zero, List.set_cons_succ]
        refine wpAnyH_take (i := 12) (v := undef) rfl (by kernel_rfl) (by kernel_rfl) (by kernel_rfl) (fun _ _ _ h => h) (Or.inr ⟨by rfl, rfl⟩) (by trivial) ?_
        try simp only [Act.put, List.getElem_toArray, List.getElem_cons_zero, List.getElem_cons_succ, List.setIfInBounds_toArray, List.set_cons_zero, List.set_cons_succ]
        refine wpAnyH_take (i := 13) (v := undef) rfl (by kernel_rfl) (by kernel_rfl) (by kernel_rfl) (fun _ _ _ h => h) (Or.inr ⟨by rfl, rfl⟩) (by trivial) ?_
        try simp only [Act.put, List.getElem_toArray, List.getElem_cons_zero, List.getElem_cons_succ, List.setIfInBounds_toArray, List.set_cons_zero, List.set_cons_succ]
        refine wpAnyH_take (i := 14) (v := undef) rfl (by kernel_rfl) (by kernel_rfl) (by kernel_rfl) (fun _ _ _ h => h) (Or.inr ⟨by rfl, rfl⟩) (by trivial) ?_
        try simp only [Act.put, List.getElem_toArray, List.getElem_cons_zero, List.getElem_cons_succ, List.setIfInBounds_toArray, List.set_cons_zero, List.set_cons_succ]
        refine wpAnyH_take (i := 15) (v := undef) rfl (by kernel_rfl) (by kernel_rfl) (by kernel_rfl) (fun _ _ _ h => h) (Or.inr ⟨by rfl, rfl⟩) (by trivial) ?_
        try simp only [Act.put, List.getElem_toArray, List.getElem_cons_zero, List.getElem_cons_succ, List.setIfInBounds_toArray, List.set_cons_zero, List.set_cons_succ]
        refine wpAnyH_take (i := 16) (v := undef) rfl (by kernel_rfl) (by kernel_rfl) (by kernel_rfl) (fun _ _ _ h => h) (Or.inr ⟨by rfl, rfl⟩) (by trivial) ?_
        try simp only [Act.put, List.getElem_toArray, List.getElem_cons_zero, List.getElem_cons_succ, List.setIfInBounds_toArray, List.set_cons_zero, List.set_cons_succ]
        refine wpAnyH_take (i := 17) (v := undef) rfl (by kernel_rfl) (by kernel_rfl) (by kernel_rfl) (fun _ _ _ h => h) (Or.inr ⟨by rfl, rfl⟩) (by trivial) ?_
        try simp only [Act.put, List.getElem_toArray, List.getElem_cons_zero, List.getElem_cons_succ, List.setIfInBounds_toArray, List.set_cons_zero, List.set_cons_succ]
        refine wpAnyH_take (i := 18) (v := ?_) rfl (by kernel_rfl) (by kernel_rfl) (by kernel_rfl) (fun _ _ _ h => h) (Or.inl ⟨by rfl, ?_⟩) (by trivial) ?_
        rotate_left
        · (intro w hSw; go_simp; try (with_reducible rfl))
        try simp only [Act.put, List.getElem_toArray, List.getElem_cons_zero, List.getElem_cons_succ, List.setIfInBounds_toArray, List.set_cons_zero, List.set_cons_succ]
        refine wpAnyH_done (by kernel_rfl) ?_ _
        go_wp2_with fail
        go_ret
        exact ⟨rfl, D2.drew.drew.bel⟩
    · have hlt2 : ¬ (f : Int) < (s.next : Int) := by omega
      have hme : m = s.next := by rw [HMM.out, if_neg hlt]
      have HME := Lib.hid hme; clear hme HMM
      go_wp2_with fail
      rw [← HME.out]
      go_region_held3 (fun w' => (w'.cell? ⟨b2, 0, none⟩ = some (.int .i64 t.ty) ∧ w'.cell? ⟨b2, 1, none⟩ = some (.string t.val) ∧ w'.cell? ⟨b2, 2, none⟩ = some (.string t.fn) ∧ w'.cell? ⟨b2, 3, none⟩ = some (.int .i64 t.off) ∧ w'.cell? ⟨b2, 4, none⟩ = some (.int .i64 t.line) ∧ w'.cell? ⟨b2, 5, none⟩ = some (.int .i64 t.col)) ∧ (w'.cell? ⟨rb, m * 6, none⟩ = some (.int .i64 t.ty) ∧ w'.cell? ⟨rb, m * 6 + 1, none⟩ = some (.string t.val) ∧ w'.cell? ⟨rb, m * 6 + 1 + 1, none⟩ = some (.string t.fn) ∧ w'.cell? ⟨rb, m * 6 + 1 + 1 + 1, none⟩ = some (.int .i64 t.off) ∧ w'.cell? ⟨rb, m * 6 + 1 + 1 + 1 + 1, none⟩ = some (.int .i64 t.line) ∧ w'.cell? ⟨rb, m * 6 + 1 + 1 + 1 + 1 + 1, none⟩ = some (.int .i64 t.col)))
        (first | assumption | exact ⟨(heldM C10.drew (b := b2) (by simp) HTT hm1).1, (heldM C10.drew (b := b2) (by simp) HTT hm1).2.1⟩)
        (fail)
      have D1 := C10.drew
      clear C10
      go_wp2_with fail
      go_region_held3 (fun w' => w'.cell? ⟨b1, 0, none⟩ = some (.int .i64 s.raw) ∧ w'.cell? ⟨b1, 1, none⟩ = some (.int .i64 s.next) ∧ w'.cell? ⟨b1, 2, none⟩ = some (.int .i64 s.cur))
        (first | assumption | exact heldE D1.drew (by simp) | exact heldE D2 (by simp))
        (first | (go_at_call 34; refine (make_any _ pb tb mb c nm L S _ _ _ D1.drew.lx).mono ?_; rintro e w8 ⟨rfl, hb8⟩; have D2 := D1.drew.later hb8; clear hb8))
      clear D1
      have hq : q = 0 ∨ q = 1 ∨ q = 2 := by omega
      rcases hq with rfl | rfl | rfl
      · have HTN : Hid (t = L.getD s.next eofTok) := Lib.hid (by rw [← HME.out]; exact HTT.out)
        go_wp2_with fail
        go_region_held3 (fun w' => Car w w' pb tb mb c nm L S s.raw s.next s.cur rb (toksCells L) eb en [(b2, 46, #[.int .i64 t.ty, .string t.val, .string t.fn, .int .i64 t.off, .int .i64 t.line, .int .i64 t.col]), (b1, 49, #[.int .i64 s.raw, .int .i64 s.next, .int .i64 s.cur])] ∧ (w'.cell? ⟨b2, 0, none⟩ = some (.int .i64 t.ty) ∧ w'.cell? ⟨b2, 1, none⟩ = some (.string t.val) ∧ w'.cell? ⟨b2, 2, none⟩ = some (.string t.fn) ∧ w'.cell? ⟨b2, 3, none⟩ = some (.int .i64 t.off) ∧ w'.cell? ⟨b2, 4, none⟩ = some (.int .i64 t.line) ∧ w'.cell? ⟨b2, 5, none⟩ = some (.int .i64 t.col)) ∧ (w'.cell? ⟨tb, s.next * 6, none⟩ = some (.int .i64 t.ty) ∧ w'.cell? ⟨tb, s.next * 6 + 1, none⟩ = some (.string t.val) ∧ w'.cell? ⟨tb, s.next * 6 + 1 + 1, none⟩ = some (.string t.fn) ∧ w'.cell? ⟨tb, s.next * 6 + 1 + 1 + 1, none⟩ = some (.int .i64 t.off) ∧ w'.cell? ⟨tb, s.next * 6 + 1 + 1 + 1 + 1, none⟩ = some (.int .i64 t.line) ∧ w'.cell? ⟨tb, s.next * 6 + 1 + 1 + 1 + 1 + 1, none⟩ = some (.int .i64 t.col)) ∧ w'.cell? ⟨pb, 0, none⟩ = some (.int .i64 s.raw) ∧ w'.cell? ⟨pb, 1, none⟩ = some (.int .i64 s.next) ∧ w'.cell? ⟨pb, 2, none⟩ = some (.int .i64 s.cur) ∧ w'.cell? ⟨pb, 3, none⟩ = some (.slice (some ⟨tb, 0, none⟩) L.length c) ∧ w'.cell? ⟨pb, 4, none⟩ = some (.map (some mb)))
          (first | assumption | exact heldQ D2.drew (b := b2) (by simp) HTN hn1 | (go_split_ands; exact heldQ (Car.later (by assumption) hbl) (b := b2) (by simp) HTN hn1))
          (first | (go_at_call 25; refine (peek_any _ pb tb mb c nm L S _ _ s.next (by go_split_ands; exact Car.lx (by assumption)) hn1).mono ?_; rintro e w' ⟨rfl, q, hwq⟩; have hbl := below_of_drewN hwq; clear hwq) | (go_at_call 24; refine (rawPeek_any _ pb tb mb c nm L S _ _ s.raw (by go_split_ands; exact Car.lx (by assumption)) hr1).mono ?_; rintro e w' ⟨rfl, q, hwq⟩; have hbl := below_of_drewN hwq; clear hwq) | (go_at_call 22; refine (rawCursor_any _ _ _ _).mono ?_; rintro e w' ⟨rfl, hbl⟩))
        obtain ⟨D3, -⟩ := ‹Car w _ pb tb mb c nm L S s.raw s.next s.cur rb (toksCells L) eb en [(b2, 46, #[.int .i64 t.ty, .string t.val, .string t.fn, .int .i64 t.off, .int .i64 t.line, .int .i64 t.col]), (b1, 49, #[.int .i64 s.raw, .int .i64 s.next, .int .i64 s.cur])] ∧ _›
        clear D2
        go_wp2_with fail
        refine wp_region_held_drew (S := (fun _ => True)) (by kernel_rfl) trivial (fun hHeld => ?_)
        clear hHeld
        refine wpAnyH_take (i := 0) (v := ?_) rfl (by kernel_rfl) (by kernel_rfl) (by kernel_rfl) (fun _ _ _ h => h) (Or.inl ⟨by rfl, ?_⟩) (by trivial) ?_
        rotate_left
        · (intro w hSw; go_simp; try (with_reducible rfl))
        try simp only [Act.put, List.getElem_toArray, List.getElem_cons_zero, List.getElem_cons_succ, List.setIfInBounds_toArray, List.set_cons_zero, List.set_cons_succ]
        refine wpAnyH_take (i := 1) (v := ?_) rfl (by kernel_rfl) (by kernel_rfl) (by kernel_rfl) (fun _ _ _ h => h) (Or.inl ⟨by rfl, ?_⟩) (by trivial) ?_
        rotate_left
        · (intro w hSw; go_simp; try (with_reducible rfl))
        try simp only [Act.put, List.getElem_toArray, List.getElem_cons_zero, List.getElem_cons_succ, List.setIfInBounds_toArray, List.set_cons_zero, List.set_cons_succ]
        refine wpAnyH_take (i := 2) (v := ?_) rfl (by kernel_rfl) (by kernel_rfl) (by kernel_rfl) (fun _ _ _ h => h) (Or.inl ⟨by rfl, ?_⟩) (by trivial) ?_
        rotate_left
        · (intro w hSw; go_simp; try (with_reducible rfl))
        try simp only [Act.put, List.getElem_toArray, List.getElem_cons_zero, List.getElem_cons_succ, List.setIfInBounds_toArray, List.set_cons_zero, List.set_cons_succ]
        refine wpAnyH_take (i := 3) (v := undef) rfl (by kernel_rfl) (by kernel_rfl) (by kernel_rfl) (fun _ _ _ h => h) (Or.inr ⟨by rfl, rfl⟩) (by trivial) ?_
        try simp only [Act.put, List.getElem_toArray, List.getElem_cons_zero, List.getElem_cons_succ, List.setIfInBounds_toArray, List.set_cons_zero, List.set_cons_succ]
        refine wpAnyH_take (i := 4) (v := undef) rfl (by kernel_rfl) (by kernel_rfl) (by kernel_rfl) (fun _ _ _ h => h) (Or.inr ⟨by rfl, rfl⟩) (by trivial) ?_
        try simp only [Act.put, List.getElem_toArray, List.getElem_cons_zero, List.getElem_cons_succ, List.setIfInBounds_toArray, List.set_cons_zero, List.set_cons_succ]
        refine wpAnyH_take (i := 5) (v := undef) rfl (by kernel_rfl) (by kernel_rfl) (by kernel_rfl) (fun _ _ _ h => h) (Or.inr ⟨by rfl, rfl⟩) (by trivial) ?_
        try simp only [Act.put, List.getElem_toArray, List.getElem_cons_zero, List.getElem_cons_succ, List.setIfInBounds_toArray, List.set_cons_zero, List.set_cons_succ]
        refine wpAnyH_take (i := 6) (v := undef) rfl (by kernel_rfl) (by kernel_rfl) (by kernel_rfl) (fun _ _ _ h => h) (Or.inr ⟨by rfl, rfl⟩) (by trivial) ?_
        try simp only [Act.put, List.getElem_toArray, List.getElem_cons_zero, List.getElem_cons_succ, List.setIfInBounds_toArray, List.set_cons_zero, List.set_cons_succ]
        refine wpAnyH_take (i := 7) (v := undef) rfl (by kernel_rfl) (by kernel_rfl) (by kernel_rfl) (fun _ _ _ h => h) (Or.inr ⟨by rfl, rfl⟩) (by trivial) ?_
        try simp only [Act.put, List.getElem_toArray, List.getElem_cons_zero, List.getElem_cons_succ, List.setIfInBounds_toArray, List.set_cons_zero, List.set_cons_succ]
        refine wpAnyH_take (i := 8) (v := undef) rfl (by kernel_rfl) (by kernel_rfl) (by kernel_rfl) (fun _ _ _ h => h) (Or.inr ⟨by rfl, rfl⟩) (by trivial) ?_
        try simp only [Act.put, List.getElem_toArray, List.getElem_cons_zero, List.getElem_cons_succ, List.setIfInBounds_toArray, List.set_cons_zero, List.set_cons_succ]
        refine wpAnyH_take (i := 9) (v := undef) rfl (by kernel_rfl) (by kernel_rfl) (by kernel_rfl) (fun _ _ _ h => h) (Or.inr ⟨by rfl, rfl⟩) (by trivial) ?_
        try simp only [Act.put, List.getElem_toArray, List.getElem_cons_zero, List.getElem_cons_succ, List.setIfInBounds_toArray, List.set_cons_zero, List.set_cons_succ]
        refine wpAnyH_take (i := 10) (v := undef) rfl (by kernel_rfl) (by kernel_rfl) (by kernel_rfl) (fun _ _ _ h => h) (Or.inr ⟨by rfl, rfl⟩) (by trivial) ?_
        try simp only [Act.put, List.getElem_toArray, List.getElem_cons_zero, List.getElem_cons_succ, List.setIfInBounds_toArray, List.set_cons_zero, List.set_cons_succ]
        refine wpAnyH_take (i := 11) (v := undef) rfl (by kernel_rfl) (by kernel_rfl) (by kernel_rfl) (fun _ _ _ h => h) (Or.inr ⟨by rfl, rfl⟩) (by trivial) ?_
        try simp only [Act.put, List.getElem_toArray, List.getElem_cons_zero, List.getElem_cons_succ, List.setIfInBounds_toArray, List.set_cons_zero, List.set_cons_succ]
        refine wpAnyH_take (i := 12) (v := undef) rfl (by kernel_rfl) (by kernel_rfl) (by kernel_rfl) (fun _ _ _ h => h) (Or.inr ⟨by rfl, rfl⟩) (by trivial) ?_
        try simp only [Act.put, List.getElem_toArray, List.getElem_cons_zero, List.getElem_cons_succ, List.setIfInBounds_toArray, List.set_cons_zero, List.set_cons_succ]
        refine wpAnyH_take (i := 13) (v := undef) rfl (by kernel_rfl) (by kernel_rfl) (by kernel_rfl) (fun _ _ _ h => h) (Or.inr ⟨by rfl, rfl⟩) (by trivial) ?_
        try simp only [Act.put, List.getElem_toArray, List.getElem_cons_zero, List.getElem_cons_succ, List.setIfInBounds_toArray, List.set_cons_zero, List.set_cons_succ]
        refine wpAnyH_take (i := 14) (v := undef) rfl (by kernel_rfl) (by kernel_rfl) (by kernel_rfl) (fun _ _ _ h => h) (Or.inr ⟨by rfl, rfl⟩) (by trivial) ?_
        try simp only [Act.put, List.getElem_toArray, List.getElem_cons_zero, List.getElem_cons_succ, List.setIfInBounds_toArray, List.set_cons_zero, List.set_cons_succ]
        refine wpAnyH_take (i := 15) (v := undef) rfl (by kernel_rfl) (by kernel_rfl) (by kernel_rfl) (fun _ _ _ h => h) (Or.inr ⟨by rfl, rfl⟩) (by trivial) ?_
        try simp only [Act.put, List.getElem_toArray, List.getElem_cons_zero, List.getElem_cons_succ, List.setIfInBounds_toArray, List.set_cons_zero, List.set_cons_succ]
        refine wpAnyH_take (i := 16) (v := undef) rfl (by kernel_rfl) (by kernel_rfl) (by kernel_rfl) (fun _ _ _ h => h) (Or.inr ⟨by rfl, rfl⟩) (by trivial) ?_
        try simp only [Act.put, List.getElem_toArray, List.getElem_cons_zero, List.getElem_cons_succ, List.setIfInBounds_toArray, List.set_cons_zero, List.set_cons_succ]
        refine wpAnyH_take (i := 17) (v := undef) rfl (by kernel_rfl) (by kernel_rfl) (by kernel_rfl) (fun _ _ _ h => h) (Or.inr ⟨by rfl, rfl⟩) (by trivial) ?_
        try simp only [Act.put, List.getElem_toArray, List.getElem_cons_zero, List.getElem_cons_succ, List.setIfInBounds_toArray, List.set_cons_zero, List.set_cons_succ]
        refine wpAnyH_take (i := 18) (v := ?_) rfl (by kernel_rfl) (by kernel_rfl) (by kernel_rfl) (fun _ _ _ h => h) (Or.inl ⟨by rfl, ?_⟩) (by trivial) ?_
        rotate_left
        · (intro w hSw; go_simp; try (with_reducible rfl))
        try simp only [Act.put, List.getElem_toArray, List.getElem_cons_zero, List.getElem_cons_succ, List.setIfInBounds_toArray, List.set_cons_zero, List.set_cons_succ]
        refine wpAnyH_done (by kernel_rfl) ?_ _
        go_wp2_with fail
        go_ret
        exact ⟨rfl, D3.drew.bel⟩
      · have hms : m = s.raw := by
          rcases Nat.lt_or_ge s.raw m with h | h
          · have := (HA.out s.raw (Nat.le_refl _) h).2
            simp [mSel, mAlways] at this
          · omega
        have HTR : Hid (t = L.getD s.raw eofTok) := Lib.hid (by rw [← hms]; exact HTT.out)
        rw [hms]
        clear hms
        go_wp2_with fail
        refine wp_region_held_drew (S := (fun _ => True)) (by kernel_rfl) trivial (fun hHeld => ?_)
        clear hHeld
        refine wpAnyH_take (i := 0) (v := ?_) rfl (by kernel_rfl) (by kernel_rfl) (by kernel_rfl) (fun _ _ _ h => h) (Or.inl ⟨by rfl, ?_⟩) (by trivial) ?_
        rotate_left
        · (intro w hSw; go_simp; try (with_reducible rfl))
        try simp only [Act.put, List.getElem_toArray, List.getElem_cons_zero, List.getElem_cons_succ, List.setIfInBounds_toArray, List.set_cons_zero, List.set_cons_succ]
        refine wpAnyH_take (i := 1) (v := ?_) rfl (by kernel_rfl) (by kernel_rfl) (by kernel_rfl) (fun _ _ _ h => h) (Or.inl ⟨by rfl, ?_⟩) (by trivial) ?_
        rotate_left
        · (intro w hSw; go_simp; try (with_reducible rfl))
        try simp only [Act.put, List.getElem_toArray, List.getElem_cons_zero, List.getElem_cons_succ, List.setIfInBounds_toArray, List.set_cons_zero, List.set_cons_succ]
        refine wpAnyH_take (i := 2) (v := ?_) rfl (by kernel_rfl) (by kernel_rfl) (by kernel_rfl) (fun _ _ _ h => h) (Or.inl ⟨by rfl, ?_⟩) (by trivial) ?_
        rotate_left
        · (intro w hSw; go_simp; try (with_reducible rfl))
        try simp only [Act.put, List.getElem_toArray, List.getElem_cons_zero, List.getElem_cons_succ, List.setIfInBounds_toArray, List.set_cons_zero, List.set_cons_succ]
        refine wpAnyH_take (i := 3) (v := undef) rfl (by kernel_rfl) (by kernel_rfl) (by kernel_rfl) (fun _ _ _ h => h) (Or.inr ⟨by rfl, rfl⟩) (by trivial) ?_
        try simp only [Act.put, List.getElem_toArray, List.getElem_cons_zero, List.getElem_cons_succ, List.setIfInBounds_toArray, List.set_cons_zero, List.set_cons_succ]
        refine wpAnyH_take (i := 4) (v := undef) rfl (by kernel_rfl) (by kernel_rfl) (by kernel_rfl) (fun _ _ _ h => h) (Or.inr ⟨by rfl, rfl⟩) (by trivial) ?_
        try simp only [Act.put, List.getElem_toArray, List.getElem_cons_zero, List.getElem_cons_succ, List.setIfInBounds_toArray, List.set_cons_zero, List.set_cons_succ]
        refine wpAnyH_take (i := 5) (v := undef) rfl (by kernel_rfl) (by kernel_rfl) (by kernel_rfl) (fun _ _ _ h => h) (Or.inr ⟨by rfl, rfl⟩) (by trivial) ?_
        try simp only [Act.put, List.getElem_toArray, List.getElem_cons_zero, List.getElem_cons_succ, List.setIfInBounds_toArray, List.set_cons_zero, List.set_cons_succ]
        refine wpAnyH_take (i := 6) (v := undef) rfl (by kernel_rfl) (by kernel_rfl) (by kernel_rfl) (fun _ _ _ h => h) (Or.inr ⟨by rfl, rfl⟩) (by trivial) ?_
        try simp only [Act.put, List.getElem_toArray, List.getElem_cons_zero, List.getElem_cons_succ, List.setIfInBounds_toArray, List.set_cons_zero, List.set_cons_succ]
        refine wpAnyH_take (i := 7) (v := undef) rfl (by kernel_rfl) (by kernel_rfl) (by kernel_rfl) (fun _ _ _ h => h) (Or.inr ⟨by rfl, rfl⟩) (by trivial) ?_
        try simp only [Act.put, List.getElem_toArray, List.getElem_cons_zero, List.getElem_cons_succ, List.setIfInBounds_toArray, List.set_cons_zero, List.set_cons_succ]
        refine wpAnyH_take (i := 8) (v := undef) rfl (by kernel_rfl) (by kernel_rfl) (by kernel_rfl) (fun _ _ _ h => h) (Or.inr ⟨by rfl, rfl⟩) (by trivial) ?_
        try simp only [Act.put, List.getElem_toArray, List.getElem_cons_zero, List.getElem_cons_succ, List.setIfInBounds_toArray, List.set_cons_zero, List.set_cons_succ]
        refine wpAnyH_take (i := 9) (v := ?_) rfl (by kernel_rfl) (by kernel_rfl) (by kernel_rfl) (fun _ _ _ h => h) (Or.inl ⟨by rfl, ?_⟩) (by trivial) ?_
        rotate_left
        · (intro w hSw; go_simp; try (with_reducible rfl))
        try simp only [Act.put, List.getElem_toArray, List.getElem_cons_zero, List.getElem_cons_succ, List.setIfInBounds_toArray, List.set_cons_zero, List.set_cons_succ]
        refine wpAnyH_done (by kernel_rfl) ?_ _
        go_wp2_with fail
        have D4 := D2.drew
        clear D2
        go_region_held3 (fun w' => Car w w' pb tb mb c nm L S s.raw s.next s.cur rb (toksCells L) eb en [(b2, 46, #[.int .i64 t.ty, .string t.val, .string t.fn, .int .i64 t.off, .int .i64 t.line, .int .i64 t.col]), (b1, 49, #[.int .i64 s.raw, .int .i64 s.next, .int .i64 s.cur])] ∧ (w'.cell? ⟨b2, 0, none⟩ = some (.int .i64 t.ty) ∧ w'.cell? ⟨b2, 1, none⟩ = some (.string t.val) ∧ w'.cell? ⟨b2, 2, none⟩ = some (.string t.fn) ∧ w'.cell? ⟨b2, 3, none⟩ = some (.int .i64 t.off) ∧ w'.cell? ⟨b2, 4, none⟩ = some (.int .i64 t.line) ∧ w'.cell? ⟨b2, 5, none⟩ = some (.int .i64 t.col)) ∧ (w'.cell? ⟨tb, s.raw * 6, none⟩ = some (.int .i64 t.ty) ∧ w'.cell? ⟨tb, s.raw * 6 + 1, none⟩ = some (.string t.val) ∧ w'.cell? ⟨tb, s.raw * 6 + 1 + 1, none⟩ = some (.string t.fn) ∧ w'.cell? ⟨tb, s.raw * 6 + 1 + 1 + 1, none⟩ = some (.int .i64 t.off) ∧ w'.cell? ⟨tb, s.raw * 6 + 1 + 1 + 1 + 1, none⟩ = some (.int .i64 t.line) ∧ w'.cell? ⟨tb, s.raw * 6 + 1 + 1 + 1 + 1 + 1, none⟩ = some (.int .i64 t.col)) ∧ w'.cell? ⟨pb, 0, none⟩ = some (.int .i64 s.raw) ∧ w'.cell? ⟨pb, 1, none⟩ = some (.int .i64 s.next) ∧ w'.cell? ⟨pb, 2, none⟩ = some (.int .i64 s.cur) ∧ w'.cell? ⟨pb, 3, none⟩ = some (.slice (some ⟨tb, 0, none⟩) L.length c) ∧ w'.cell? ⟨pb, 4, none⟩ = some (.map (some mb)))
          (first | assumption | exact heldQ D4.drew (b := b2) (by simp) HTR hr1 | (go_split_ands; exact heldQ (Car.later (by assumption) hbl) (b := b2) (by simp) HTR hr1))
          (first | (go_at_call 25; refine (peek_any _ pb tb mb c nm L S _ _ s.next (by go_split_ands; exact Car.lx (by assumption)) hn1).mono ?_; rintro e w' ⟨rfl, q, hwq⟩; have hbl := below_of_drewN hwq; clear hwq) | (go_at_call 24; refine (rawPeek_any _ pb tb mb c nm L S _ _ s.raw (by go_split_ands; exact Car.lx (by assumption)) hr1).mono ?_; rintro e w' ⟨rfl, q, hwq⟩; have hbl := below_of_drewN hwq; clear hwq) | (go_at_call 22; refine (rawCursor_any _ _ _ _).mono ?_; rintro e w' ⟨rfl, hbl⟩))
        obtain ⟨D3, -⟩ := ‹Car w _ pb tb mb c nm L S s.raw s.next s.cur rb (toksCells L) eb en [(b2, 46, #[.int .i64 t.ty, .string t.val, .string t.fn, .int .i64 t.off, .int .i64 t.line, .int .i64 t.col]), (b1, 49, #[.int .i64 s.raw, .int .i64 s.next, .int .i64 s.cur])] ∧ _›
        go_wp2_with fail
        go_ret
        exact ⟨rfl, D3.bel⟩
      · go_wp2_with fail
        refine wp_region_held_drew (S := (fun _ => True)) (by kernel_rfl) trivial (fun hHeld => ?_)
        clear hHeld
        refine wpAnyH_take (i := 0) (v := ?_) rfl (by kernel_rfl) (by kernel_rfl) (by kernel_rfl) (fun _ _ _ h => h) (Or.inl ⟨by rfl, ?_⟩) (by trivial) ?_
        rotate_left
        · (intro w hSw; go_simp; try (with_reducible rfl))
        try simp only [Act.put, List.getElem_toArray, List.getElem_cons_zero, List.getElem_cons_succ, List.setIfInBounds_toArray, List.set_cons_zero, List.set_cons_succ]
        refine wpAnyH_take (i := 1) (v := ?_) rfl (by kernel_rfl) (by kernel_rfl) (by kernel_rfl) (fun _ _ _ h => h) (Or.inl ⟨by rfl, ?_⟩) (by trivial) ?_
        rotate_left
        · (intro w hSw; go_simp; try (with_reducible rfl))
        try simp only [Act.put, List.getElem_toArray, List.getElem_cons_zero, List.getElem_cons_succ, List.setIfInBounds_toArray, List.set_cons_zero, List.set_cons_succ]
        refine wpAnyH_take (i := 2) (v := ?_) rfl (by kernel_rfl) (by kernel_rfl) (by kernel_rfl) (fun _ _ _ h => h) (Or.inl ⟨by rfl, ?_⟩) (by trivial) ?_
        rotate_left
        · (intro w hSw; go_simp; try (with_reducible rfl))
        try simp only [Act.put, List.getElem_toArray, List.getElem_cons_zero, List.getElem_cons_succ, List.setIfInBounds_toArray, List.set_cons_zero, List.set_cons_succ]
        refine wpAnyH_take (i := 3) (v := undef) rfl (by kernel_rfl) (by kernel_rfl) (by kernel_rfl) (fun _ _ _ h => h) (Or.inr ⟨by rfl, rfl⟩) (by trivial) ?_
        try simp only [Act.put, List.getElem_toArray, List.getElem_cons_zero, List.getElem_cons_succ, List.setIfInBounds_toArray, List.set_cons_zero, List.set_cons_succ]
        refine wpAnyH_take (i := 4) (v := undef) rfl (by kernel_rfl) (by kernel_rfl) (by kernel_rfl) (fun _ _ _ h => h) (Or.inr ⟨by rfl, rfl⟩) (by trivial) ?_
        try simp only [Act.put, List.getElem_toArray, List.getElem_cons_zero, List.getElem_cons_succ, List.setIfInBounds_toArray, List.set_cons_zero, List.set_cons_succ]
        refine wpAnyH_take (i := 5) (v := undef) rfl (by kernel_rfl) (by kernel_rfl) (by kernel_rfl) (fun _ _ _ h => h) (Or.inr ⟨by rfl, rfl⟩) (by trivial) ?_
        try simp only [Act.put, List.getElem_toArray, List.getElem_cons_zero, List.getElem_cons_succ, List.setIfInBounds_toArray, List.set_cons_zero, List.set_cons_succ]
        refine wpAnyH_take (i := 6) (v := undef) rfl (by kernel_rfl) (by kernel_rfl) (by kernel_rfl) (fun _ _ _ h => h) (Or.inr ⟨by rfl, rfl⟩) (by trivial) ?_
        try simp only [Act.put, List.getElem_toArray, List.getElem_cons_zero, List.getElem_cons_succ, List.setIfInBounds_toArray, List.set_cons_zero, List.set_cons_succ]
        refine wpAnyH_take (i := 7) (v := undef) rfl (by kernel_rfl) (by kernel_rfl) (by kernel_rfl) (fun _ _ _ h => h) (Or.inr ⟨by rfl, rfl⟩) (by trivial) ?_
        try simp only [Act.put, List.getElem_toArray, List.getElem_cons_zero, List.getElem_cons_succ, List.setIfInBounds_toArray, List.set_cons_zero, List.set_cons_succ]
        refine wpAnyH_take (i := 8) (v := undef) rfl (by kernel_rfl) (by kernel_rfl) (by kernel_rfl) (fun _ _ _ h => h) (Or.inr ⟨by rfl, rfl⟩) (by trivial) ?_
        try simp only [Act.put, List.getElem_toArray, List.getElem_cons_zero, List.getElem_cons_succ, List.setIfInBounds_toArray, List.set_cons_zero, List.set_cons_succ]
        refine wpAnyH_take (i := 9) (v := ?_) rfl (by kernel_rfl) (by kernel_rfl) (by kernel_rfl) (fun _ _ _ h => h) (Or.inl ⟨by rfl, ?_⟩) (by trivial) ?_
        rotate_left
        · (intro w hSw; go_simp; try (with_reducible rfl))
        try simp only [Act.put, List.getElem_toArray, List.getElem_cons_zero, List.getElem_cons_succ, List.setIfInBounds_toArray, List.set_cons_zero, List.set_cons_succ]
        refine wpAnyH_done (by kernel_rfl) ?_ _
        go_wp2_with fail
        refine wp_region_held_drew (S := (fun _ => True)) (by kernel_rfl) trivial (fun hHeld => ?_)
        clear hHeld
        refine wpAnyH_take (i := 0) (v := ?_) rfl (by kernel_rfl) (by kernel_rfl) (by kernel_rfl) (fun _ _ _ h => h) (Or.inl ⟨by rfl, ?_⟩) (by trivial) ?_
        rotate_left
        · (intro w hSw; go_simp; try (with_reducible rfl))
        try simp only [Act.put, List.getElem_toArray, List.getElem_cons_zero, List.getElem_cons_succ, List.setIfInBounds_toArray, List.set_cons_zero, List.set_cons_succ]
        refine wpAnyH_take (i := 1) (v := ?_) rfl (by kernel_rfl) (by kernel_rfl) (by kernel_rfl) (fun _ _ _ h => h) (Or.inl ⟨by rfl, ?_⟩) (by trivial) ?_
        rotate_left
        · (intro w hSw; go_simp; try (with_reducible rfl))
        try simp only [Act.put, List.getElem_toArray, List.getElem_cons_zero, List.getElem_cons_succ, List.setIfInBounds_toArray, List.set_cons_zero, List.set_cons_succ]
        refine wpAnyH_take (i := 2) (v := ?_) rfl (by kernel_rfl) (by kernel_rfl) (by kernel_rfl) (fun _ _ _ h => h) (Or.inl ⟨by rfl, ?_⟩) (by trivial) ?_
        rotate_left
        · (intro w hSw; go_simp; try (with_reducible rfl))
        try simp only [Act.put, List.getElem_toArray, List.getElem_cons_zero, List.getElem_cons_succ, List.setIfInBounds_toArray, List.set_cons_zero, List.set_cons_succ]
        refine wpAnyH_take (i := 3) (v := undef) rfl (by kernel_rfl) (by kernel_rfl) (by kernel_rfl) (fun _ _ _ h => h) (Or.inr ⟨by rfl, rfl⟩) (by trivial) ?_
        try simp only [Act.put, List.getElem_toArray, List.getElem_cons_zero, List.getElem_cons_succ, List.setIfInBounds_toArray, List.set_cons_zero, List.set_cons_succ]
        refine wpAnyH_take (i := 4) (v := undef) rfl (by kernel_rfl) (by kernel_rfl) (by kernel_rfl) (fun _ _ _ h => h) (Or.inr ⟨by rfl, rfl⟩) (by trivial) ?_
        try simp only [Act.put, List.getElem_toArray, List.getElem_cons_zero, List.getElem_cons_succ, List.setIfInBounds_toArray, List.set_cons_zero, List.set_cons_succ]
        refine wpAnyH_take (i := 5) (v := undef) rfl (by kernel_rfl) (by kernel_rfl) (by kernel_rfl) (fun _ _ _ h => h) (Or.inr ⟨by rfl, rfl⟩) (by trivial) ?_
        try simp only [Act.put, List.getElem_toArray, List.getElem_cons_zero, List.getElem_cons_succ, List.setIfInBounds_toArray, List.set_cons_zero, List.set_cons_succ]
        refine wpAnyH_take (i := 6) (v := undef) rfl (by kernel_rfl) (by kernel_rfl) (by kernel_rfl) (fun _ _ _ h => h) (Or.inr ⟨by rfl, rfl⟩) (by trivial) ?_
        try simp only [Act.put, List.getElem_toArray, List.getElem_cons_zero, List.getElem_cons_succ, List.setIfInBounds_toArray, List.set_cons_zero, List.set_cons_succ]
        refine wpAnyH_take (i := 7) (v := undef) rfl (by kernel_rfl) (by kernel_rfl) (by kernel_rfl) (fun _ _ _ h => h) (Or.inr ⟨by rfl, rfl⟩) (by trivial) ?_
        try simp only [Act.put, List.getElem_toArray, List.getElem_cons_zero, List.getElem_cons_succ, List.setIfInBounds_toArray, List.set_cons_zero, List.set_cons_succ]
        refine wpAnyH_take (i := 8) (v := undef) rfl (by kernel_rfl) (by kernel_rfl) (by kernel_rfl) (fun _ _ _ h => h) (Or.inr ⟨by rfl, rfl⟩) (by trivial) ?_
        try simp only [Act.put, List.getElem_toArray, List.getElem_cons_zero, List.getElem_cons_succ, List.setIfInBounds_toArray, List.set_cons_zero, List.set_cons_succ]
        refine wpAnyH_take (i := 9) (v := undef) rfl (by kernel_rfl) (by kernel_rfl) (by kernel_rfl) (fun _ _ _ h => h) (Or.inr ⟨by rfl, rfl⟩) (by trivial) ?_
        try simp only [Act.put, List.getElem_toArray, List.getElem_cons_zero, List.getElem_cons_succ, List.setIfInBounds_toArray, List.set_cons_zero, List.set_cons_succ]
        refine wpAnyH_take (i := 10) (v := undef) rfl (by kernel_rfl) (by kernel_rfl) (by kernel_rfl) (fun _ _ _ h => h) (Or.inr ⟨by rfl, rfl⟩) (by trivial) ?_
        try simp only [Act.put, List.getElem_toArray, List.getElem_cons_zero, List.getElem_cons_succ, List.setIfInBounds_toArray, List.set_cons_zero, List.set_cons_succ]
        refine wpAnyH_take (i := 11) (v := undef) rfl (by kernel_rfl) (by kernel_rfl) (by kernel_rfl) (fun _ _ _ h => h) (Or.inr ⟨by rfl, rfl⟩) (by trivial) ?_
        try simp only [Act.put, List.getElem_toArray, List.getElem_cons_zero, List.getElem_cons_succ, List.setIfInBounds_toArray, List.set_cons_zero, List.set_cons_succ]
        refine wpAnyH_take (i := 12) (v := undef) rfl (by kernel_rfl) (by kernel_rfl) (by kernel_rfl) (fun _ _ _ h => h) (Or.inr ⟨by rfl, rfl⟩) (by trivial) ?_
        try simp only [Act.put, List.getElem_toArray, List.getElem_cons_zero, List.getElem_cons_succ, List.setIfInBounds_toArray, List.set_cons_zero, List.set_cons_succ]
        refine wpAnyH_take (i := 13) (v := undef) rfl (by kernel_rfl) (by kernel_rfl) (by kernel_rfl) (fun _ _ _ h => h) (Or.inr ⟨by rfl, rfl⟩) (by trivial) ?_
        try simp only [Act.put, List.getElem_toArray, List.getElem_cons_zero, List.getElem_cons_succ, List.setIfInBounds_toArray, List.set_cons_zero, List.set_cons_succ]
        refine wpAnyH_take (i := 14) (v := undef) rfl (by kernel_rfl) (by kernel_rfl) (by kernel_rfl) (fun _ _ _ h => h) (Or.inr ⟨by rfl, rfl⟩) (by trivial) ?_
        try simp only [Act.put, List.getElem_toArray, List.getElem_cons_zero, List.getElem_cons_succ, List.setIfInBounds_toArray, List.set_cons_zero, List.set_cons_succ]
        refine wpAnyH_take (i := 15) (v := undef) rfl (by kernel_rfl) (by kernel_rfl) (by kernel_rfl) (fun _ _ _ h => h) (Or.inr ⟨by rfl, rfl⟩) (by trivial) ?_
        try simp only [Act.put, List.getElem_toArray, List.getElem_cons_zero, List.getElem_cons_succ, List.setIfInBounds_toArray, List.set_cons_zero, List.set_cons_succ]
        refine wpAnyH_take (i := 16) (v := undef) rfl (by kernel_rfl) (by kernel_rfl) (by kernel_rfl) (fun _ _ _ h => h) (Or.inr ⟨by rfl, rfl⟩) (by trivial) ?_
        try simp only [Act.put, List.getElem_toArray, List.getElem_cons_zero, List.getElem_cons_succ, List.setIfInBounds_toArray, List.set_cons_zero, List.set_cons_succ]
        refine wpAnyH_take (i := 17) (v := undef) rfl (by kernel_rfl) (by kernel_rfl) (by kernel_rfl) (fun _ _ _ h => h) (Or.inr ⟨by rfl, rfl⟩) (by trivial) ?_
        try simp only [Act.put, List.getElem_toArray, List.getElem_cons_zero, List.getElem_cons_succ, List.setIfInBounds_toArray, List.set_cons_zero, List.set_cons_succ]
        refine wpAnyH_take (i := 18) (v := ?_) rfl (by kernel_rfl) (by kernel_rfl) (by kernel_rfl) (fun _ _ _ h => h) (Or.inl ⟨by rfl, ?_⟩) (by trivial) ?_
        rotate_left
        · (intro w hSw; go_simp; try (with_reducible rfl))
        try simp only [Act.put, List.getElem_toArray, List.getElem_cons_zero, List.getElem_cons_succ, List.setIfInBounds_toArray, List.set_cons_zero, List.set_cons_succ]
        refine wpAnyH_done (by kernel_rfl) ?_ _
        go_wp2_with fail
        go_ret
        exact ⟨rfl, D2.drew.drew.bel⟩

end fnPeekAnyModel
end Go.Proofs.Ytomfonilbenhbaa
