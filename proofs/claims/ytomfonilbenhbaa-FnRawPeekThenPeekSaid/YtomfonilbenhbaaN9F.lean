/-
  The walk of FnRawPeekThenPeek: RawPeek twice is one pointer and changes nothing; Peek is the first stop from the raw cursor; they meet just at a stop. Conditions: none beyond the statement's own.
-/
import Derived.Test.YtomfonilbenhbaaN9A
import Derived.Test.YtomfonilbenhbaaN9C
import Derived.LaidEqlPtr
import Derived.Lib.Builder
namespace Go.Proofs.Ytomfonilbenhbaa
open Go.RowKit
set_option linter.unusedSimpArgs false

namespace fnRawPeekThenPeek
theorem held1 {w0 w' : World} {pb tb mb cb rb eb en c nm : Nat} {L : List Tok} {S : Int → Bool} {raw next cur r n q : Int} (h : Lx w' pb tb mb c nm L S raw next cur) (hc : Blk w' cb 49 #[.int .i64 r, .int .i64 n, .int .i64 q])
    (hb : Row w' rb 46 (toksCells L) ∧ BSet Try.prog 42 4 w' eb en S ∧ Below w0.heap.size w0 w') :
    Lx w' pb tb mb c nm L S raw next cur ∧ Blk w' cb 49 #[.int .i64 r, .int .i64 n, .int .i64 q] ∧ (Row w' rb 46 (toksCells L) ∧ BSet Try.prog 42 4 w' eb en S ∧ Below w0.heap.size w0 w') ∧ w'.cell? ⟨cb, 0, none⟩ = some (.int .i64 r) ∧ w'.cell? ⟨cb, 1, none⟩ = some (.int .i64 n) ∧ w'.cell? ⟨cb, 2, none⟩ = some (.int .i64 q) :=
  ⟨h, hc, hb, hc.cell 0, hc.cell 1, hc.cell 2⟩
theorem held2 {w0 w' : World} {pb tb mb rb eb en c nm : Nat} {L : List Tok} {S : Int → Bool} {raw next cur : Int} (h : Lx w' pb tb mb c nm L S raw next cur) (hr : Row w' rb 46 (toksCells L)) (hb : BSet Try.prog 42 4 w' eb en S ∧ Below w0.heap.size w0 w')
    {i : Nat} {t : Tok} (ht : Hid (t = L.getD i eofTok)) (hi : i < L.length) :
    Lx w' pb tb mb c nm L S raw next cur ∧ Row w' rb 46 (toksCells L) ∧ (BSet Try.prog 42 4 w' eb en S ∧ Below w0.heap.size w0 w') ∧ w'.cell? ⟨tb, i * 6, none⟩ = some (.int .i64 t.ty) ∧ w'.cell? ⟨tb, i * 6 + 1, none⟩ = some (.string t.val) ∧ w'.cell? ⟨tb, i * 6 + 1 + 1, none⟩ = some (.string t.fn) ∧ w'.cell? ⟨tb, i * 6 + 1 + 1 + 1, none⟩ = some (.int .i64 t.off) ∧ w'.cell? ⟨tb, i * 6 + 1 + 1 + 1 + 1, none⟩ = some (.int .i64 t.line) ∧ w'.cell? ⟨tb, i * 6 + 1 + 1 + 1 + 1 + 1, none⟩ = some (.int .i64 t.col) ∧ w'.cell? ⟨rb, i * 6, none⟩ = some (.int .i64 t.ty) ∧ w'.cell? ⟨rb, i * 6 + 1, none⟩ = some (.string t.val) ∧ w'.cell? ⟨rb, i * 6 + 1 + 1, none⟩ = some (.string t.fn) ∧ w'.cell? ⟨rb, i * 6 + 1 + 1 + 1, none⟩ = some (.int .i64 t.off) ∧ w'.cell? ⟨rb, i * 6 + 1 + 1 + 1 + 1, none⟩ = some (.int .i64 t.line) ∧ w'.cell? ⟨rb, i * 6 + 1 + 1 + 1 + 1 + 1, none⟩ = some (.int .i64 t.col) := by
  obtain ⟨t0, t1, t2, t3, t4, t5⟩ := h.tok hi
  rw [ht.out]
  exact ⟨h, hr, hb, t0, t1, t2, t3, t4, t5, hr.cell ((toksCells_at L i 0 (by omega) hi).trans rfl), hr.cell ((toksCells_at L i 1 (by omega) hi).trans rfl), hr.cell ((toksCells_at L i 2 (by omega) hi).trans rfl),
    hr.cell ((toksCells_at L i 3 (by omega) hi).trans rfl), hr.cell ((toksCells_at L i 4 (by omega) hi).trans rfl), hr.cell ((toksCells_at L i 5 (by omega) hi).trans rfl)⟩
theorem three_later {w0 w w' : World} {rb eb en : Nat} {L : List Tok} {S : Int → Bool} (h : Row w rb 46 (toksCells L) ∧ BSet Try.prog 42 4 w eb en S ∧ Below w0.heap.size w0 w) (hb : Below w.heap.size w w') :
    Row w' rb 46 (toksCells L) ∧ BSet Try.prog 42 4 w' eb en S ∧ Below w0.heap.size w0 w' := ⟨h.1.later hb, h.2.1.later hb, below_next hb h.2.2⟩
theorem two_later {w0 w w' : World} {eb en : Nat} {S : Int → Bool} (h : BSet Try.prog 42 4 w eb en S ∧ Below w0.heap.size w0 w) (hb : Below w.heap.size w w') :
    BSet Try.prog 42 4 w' eb en S ∧ Below w0.heap.size w0 w' := ⟨h.1.later hb, below_next hb h.2⟩
theorem below_drewN_self (w : World) (n : Nat) : Below w.heap.size w (w.drewN n) := below_drewN (Below.refl _ _) n

set_option maxHeartbeats 2000000 in
set_option maxRecDepth 100000 in
theorem walk (A0 : Option Addr) (n0 c0 : Nat) (z0 : List Int) (A1 : Option Addr) (n1 c1 : Nat) (z1 : List ByteArray) (A2 : Option Addr) (n2 c2 : Nat) (z2 : List Int) (k : Int) (w : World)
    (ht : Ints .i64 w A0 n0 z0) (hv : Strs w A1 n1 z1) (he : Ints .i64 w A2 n2 z2) (_ : (Lit.int .i64 k).wf = true) :
    Calls Try.prog 10 #[.slice A0 n0 c0, .slice A1 n1 c1, .slice A2 n2 c2, .int .i64 k] w fun e w' => e = .returned (.bool true) ∧ Below w.heap.size w w' := by
  have hm0 := ht.2.1
  have hm1 := hv.2.1
  have hm2 := he.2.1
  have HT := Lib.hid ht; clear ht
  have HV := Lib.hid hv; clear hv
  have HE := Lib.hid he; clear he
  by_cases hsmall : n0 ≤ 65536 ∧ n1 ≤ 65536 ∧ n2 ≤ 65536 ∧ 0 ≤ k ∧ k ≤ 65536
  case neg =>
    go_enter Try.func10, Try.ntmps10
    go_wp2_with fail
    refine (zzRawPeekThenPeek A0 n0 c0 A1 n1 c1 z1 A2 n2 c2 k _ HV.out hm0 hm2).mono ?_
    rintro e w1 ⟨b, rfl, rfl⟩
    unfold maxLen at hm0 hm1 hm2
    cases b
    · go_wp2_with fail
      go_ret
      exact ⟨rfl, Below.refl _ _⟩
    · by_cases hs3 : n0 ≤ 65536 ∧ n1 ≤ 65536 ∧ n2 ≤ 65536
      · obtain ⟨hs0, hs1, hs2⟩ := hs3
        go_wp2_with fail
        refine (bytesOK_any A0 n0 c0 A1 n1 c1 z1 A2 n2 c2 _ HV.out hs0 hs1 hs2).mono ?_
        rintro e w1 ⟨b, rfl, rfl⟩
        cases b
        · go_wp2_with fail
          go_ret
          exact ⟨rfl, Below.refl _ _⟩
        · go_wp2_with fail
          all_goals first | (exfalso; omega) | (go_ret; exact ⟨rfl, Below.refl _ _⟩)
      · go_wp2_with fail
        all_goals first | (exfalso; omega) | (go_ret; exact ⟨rfl, Below.refl _ _⟩)
  case pos =>
    obtain ⟨hs0, hs1, hs2, hk0, hk1⟩ := hsmall
    have hF : PL.First (types (b6Toks z0 z1)) ((b6Toks z0 z1).length - 1) := b6Go_first z1 z0 0
    have hw := b6Go_wf z1 z0 0 HT.out.2.2.1
    have hlen : 0 < (b6Toks z0 z1).length ∧ (b6Toks z0 z1).length ≤ z0.length + 1 := b6Go_length z1 z0 0
    rw [HT.out.1] at hlen
    obtain ⟨hle0, hle1⟩ := hlen
    have HW : Hid (∀ t ∈ b6Toks z0 z1, (Lit.int .i64 t.ty).wf = true) := hw; clear hw
    have htoks := fun W hb => toks_any A0 n0 c0 z0 A1 n1 c1 z1 W (HT.out.later hb) (HV.out.later hb) hs0 hs1
    have helide := fun W hb => elide_any A2 n2 c2 z2 W (HE.out.later hb) hs2
    have hfresh := fun W hb => fresh_any A0 n0 c0 z0 A1 n1 c1 z1 A2 n2 c2 z2 k W (HT.out.later hb) (HV.out.later hb) (HE.out.later hb) hs0 hs1 hs2 (by omega) (by omega)
    generalize b6Toks z0 z1 = L at *
    generalize inS z2 = S at *
    have hI := PL.inv_run (S := S) hF (k).toNat
    generalize (PL.fresh S (types L)).run S (types L) (k).toNat = s at *
    have HF := Lib.hid hF; clear hF
    have HI := Lib.hid hI; clear hI
    have HTK := Lib.hid htoks; clear htoks
    have HEL := Lib.hid helide; clear helide
    have HFR := Lib.hid hfresh; clear hfresh
    go_enter Try.func10, Try.ntmps10
    go_wp2_with fail
    refine (zzRawPeekThenPeek A0 n0 c0 A1 n1 c1 z1 A2 n2 c2 k _ HV.out hm0 hm2).mono ?_
    rintro e w1 ⟨b, rfl, rfl⟩
    unfold maxLen at hm0 hm1 hm2
    cases b
    · go_wp2_with fail
      go_ret
      exact ⟨rfl, Below.refl _ _⟩
    go_wp2_with fail
    refine (bytesOK_any A0 n0 c0 A1 n1 c1 z1 A2 n2 c2 _ HV.out hs0 hs1 hs2).mono ?_
    rintro e w1 ⟨b, rfl, rfl⟩
    cases b
    · go_wp2_with fail
      go_ret
      exact ⟨rfl, Below.refl _ _⟩
    go_wp2_with fail
    refine (HTK.out _ (Below.refl _ _)).mono ?_
    rintro e w1 ⟨rb, cap, rfl, hrb, hrow, hb1⟩
    go_wp2_with fail
    refine (HEL.out _ hb1).mono ?_
    rintro e w2 ⟨eb, en, rfl, heb, hset, hb2⟩
    have hrow2 := hrow.later hb2
    have hb2' := below_next hb2 hb1
    clear hrow hb2
    go_wp2_with fail
    refine (HFR.out _ hb2').mono ?_
    rintro e w3 ⟨pb, tb, mb, c, nm, rfl, hpb, htb, hmb, hx, hb3⟩
    have hrow3 := hrow2.later hb3
    have hset3 := hset.later hb3
    have hb3' := below_next hb3 hb2'
    clear hrow2 hset hb3 hb1 hb2'
    go_wp2_with fail
    refine (make_any _ pb tb mb c nm L S _ _ _ hx).mono ?_
    rintro e w4 ⟨rfl, hb4⟩
    have hx4 := hx.later hb4
    have hrow4 := hrow3.later hb4
    have hset4 := hset3.later hb4
    have hb4' := below_next hb4 hb3'
    clear hx hrow3 hset3 hb4 hb3'
    have hlt : s.raw < L.length := by have := HI.out.raw; omega
    have hnl : s.next < L.length := by have := HI.out.le; omega
    obtain ⟨j57, hj57⟩ : ∃ j, Try.prog.info? 46 = some j := by obtain ⟨i0, hi, _⟩ := info_parts tokInfo; exact ⟨i0, hi⟩
    have hnq := fun W => Lib.run_neq_ptr_same (P := Try.prog) W (tp := 57) ⟨tb, s.raw * 6, none⟩ Try.underlying57 hj57
    go_wp2_with fail
    have hx5 := hx4.alloc (.cells #[.int .i64 s.raw, .int .i64 s.next, .int .i64 s.cur] 49)
    have hrow5 := hrow4.alloc (.cells #[.int .i64 s.raw, .int .i64 s.next, .int .i64 s.cur] 49)
    have hset5 := hset4.alloc (.cells #[.int .i64 s.raw, .int .i64 s.next, .int .i64 s.cur] 49)
    have hcb5 := Blk.new w4 49 #[.int .i64 s.raw, .int .i64 s.next, .int .i64 s.cur]
    have hb5 := hb4'.alloc hb4'.size (.cells #[.int .i64 s.raw, .int .i64 s.next, .int .i64 s.cur] 49)
    obtain ⟨cb, hcb⟩ : ∃ cb, cb = w4.heap.size := ⟨_, rfl⟩
    obtain ⟨w5, hw5⟩ : ∃ w5, w5 = w4.alloc (.cells #[.int .i64 s.raw, .int .i64 s.next, .int .i64 s.cur] 49) := ⟨_, rfl⟩
    rw [← hcb] at hcb5 ⊢
    rw [← hw5] at hx5 hrow5 hset5 hcb5 hb5 ⊢
    clear hx4 hrow4 hset4 hb4' hcb hw5
    refine (rawPeek_any _ pb tb mb c nm L S _ _ s.raw hx5 hlt).mono ?_
    rintro e w6 ⟨rfl, q6, rfl⟩
    go_wp2_with fail
    refine (rawPeek_any _ pb tb mb c nm L S _ _ s.raw (hx5.drewN _) hlt).mono ?_
    rintro e w7 ⟨rfl, q7, rfl⟩
    have hx7 := (hx5.drewN q6).drewN q7
    have hrow7 := (hrow5.drewN q6).drewN q7
    have hset7 := (hset5.drewN q6).drewN q7
    have hcb7 := (hcb5.drewN q6).drewN q7
    have hb7 := below_drewN (below_drewN hb5 q6) q7
    obtain ⟨w7, hw7⟩ : ∃ w7, w7 = (w5.drewN q6).drewN q7 := ⟨_, rfl⟩
    rw [← hw7] at hx7 hrow7 hset7 hcb7 hb7 ⊢
    clear hx5 hrow5 hset5 hcb5 hb5 hw7
    go_wp2_with fail
    go_region_held3 (fun w' => Lx w' pb tb mb c nm L S s.raw s.next s.cur ∧ Blk w' cb 49 #[.int .i64 s.raw, .int .i64 s.next, .int .i64 s.cur] ∧ (Row w' rb 46 (toksCells L) ∧ BSet Try.prog 42 4 w' eb en S ∧ Below w.heap.size w w') ∧ w'.cell? ⟨cb, 0, none⟩ = some (.int .i64 s.raw) ∧ w'.cell? ⟨cb, 1, none⟩ = some (.int .i64 s.next) ∧ w'.cell? ⟨cb, 2, none⟩ = some (.int .i64 s.cur))
      (first | assumption | exact held1 hx7.drew hcb7.drew ⟨hrow7, hset7, hb7.drew⟩ | (go_split_ands; exact held1 (Lx.later (by assumption) hbl) (Blk.later (by assumption) hbl) (three_later ⟨by assumption, by assumption, by assumption⟩ hbl)))
      (first | (go_at_call 34; refine (make_any _ pb tb mb c nm L S s.raw s.next s.cur (by go_split_ands; assumption)).mono ?_; rintro e w' ⟨rfl, hbl⟩))
    obtain ⟨hx8, hcb8, ⟨hrow8, hset8, hb8⟩, -⟩ := ‹Lx _ pb tb mb c nm L S s.raw s.next s.cur ∧ _›
    obtain ⟨d0, d1, d2, d3, d4⟩ := hx8.cells
    clear hx7 hrow7 hset7 hcb7 hb7
    go_wp2_with fail
    refine (rawCursor_any _ _ _ _).mono ?_
    rintro e w9 ⟨rfl, hb9⟩
    have hx9 := hx8.later hb9
    have hrow9 := hrow8.later hb9
    have hset9 := hset8.later hb9
    have hb9' := below_next hb9 hb8
    clear d0 d1 d2 d3 d4 hx8 hcb8 hrow8 hset8 hb8 hb9
    have hi0 : ¬ ((s.raw : Int) < 0) := by omega
    have hi1 : (s.raw : Int) < (L.length : Int) := by omega
    go_wp2_with fail
    refine (nextStop_any _ rb eb cap en L S s.raw hrow9 hset9 HW.out (by omega) (by rw [← HI.out.next]; exact hnl)).mono ?_
    rw [← HI.out.next]
    rintro e w10 ⟨rfl, rfl⟩
    obtain ⟨t, ht⟩ : ∃ t, t = L.getD s.next eofTok := ⟨_, rfl⟩
    have HTT := Lib.hid ht; clear ht
    have hj0 : (0 : Int) ≤ (s.next : Int) := by omega
    have hj1 : (s.next : Int) < (L.length : Int) := by omega
    go_wp2_with fail
    go_region_held3 (fun w' => Lx w' pb tb mb c nm L S s.raw s.next s.cur ∧ Row w' rb 46 (toksCells L) ∧ (BSet Try.prog 42 4 w' eb en S ∧ Below w.heap.size w w') ∧ w'.cell? ⟨tb, s.next * 6, none⟩ = some (.int .i64 t.ty) ∧ w'.cell? ⟨tb, s.next * 6 + 1, none⟩ = some (.string t.val) ∧ w'.cell? ⟨tb, s.next * 6 + 1 + 1, none⟩ = some (.string t.fn) ∧ w'.cell? ⟨tb, s.next * 6 + 1 + 1 + 1, none⟩ = some (.int .i64 t.off) ∧ w'.cell? ⟨tb, s.next * 6 + 1 + 1 + 1 + 1, none⟩ = some (.int .i64 t.line) ∧ w'.cell? ⟨tb, s.next * 6 + 1 + 1 + 1 + 1 + 1, none⟩ = some (.int .i64 t.col) ∧ w'.cell? ⟨rb, s.next * 6, none⟩ = some (.int .i64 t.ty) ∧ w'.cell? ⟨rb, s.next * 6 + 1, none⟩ = some (.string t.val) ∧ w'.cell? ⟨rb, s.next * 6 + 1 + 1, none⟩ = some (.string t.fn) ∧ w'.cell? ⟨rb, s.next * 6 + 1 + 1 + 1, none⟩ = some (.int .i64 t.off) ∧ w'.cell? ⟨rb, s.next * 6 + 1 + 1 + 1 + 1, none⟩ = some (.int .i64 t.line) ∧ w'.cell? ⟨rb, s.next * 6 + 1 + 1 + 1 + 1 + 1, none⟩ = some (.int .i64 t.col))
      (first | assumption | exact held2 hx9.drew hrow9 ⟨hset9, hb9'.drew⟩ HTT hnl | (go_split_ands; exact held2 (Lx.drewN (by assumption) _) (by assumption) (two_later ⟨by assumption, by assumption⟩ (below_drewN_self _ _)) HTT hnl))
      (first | (go_at_call 25; refine (peek_any _ pb tb mb c nm L S s.raw s.cur s.next (by go_split_ands; assumption) hnl).mono ?_; rintro e w' ⟨rfl, q, rfl⟩))
    obtain ⟨hx11, hrow11, ⟨hset11, hb11⟩, -⟩ := ‹Lx _ pb tb mb c nm L S s.raw s.next s.cur ∧ _›
    clear hx9 hrow9 hset9 hb9'
    go_wp2_with fail
    refine (peek_any _ pb tb mb c nm L S _ _ s.next hx11 hnl).mono ?_
    rintro e w12 ⟨rfl, q12, hw12⟩
    have hx12 : Lx w12 pb tb mb c nm L S s.raw s.next s.cur := by rw [hw12]; exact hx11.drewN q12
    have hrow12 : Row w12 rb 46 (toksCells L) := by rw [hw12]; exact hrow11.drewN q12
    have hset12 : BSet Try.prog 42 4 w12 eb en S := by rw [hw12]; exact hset11.drewN q12
    have hb12 : Below w.heap.size w w12 := by rw [hw12]; exact below_drewN hb11 q12
    clear hx11 hrow11 hset11 hb11 hw12
    obtain ⟨u, hu⟩ : ∃ u, u = L.getD s.raw eofTok := ⟨_, rfl⟩
    have hum : u ∈ L := by rw [hu, List.getD_eq_getElem?_getD, List.getElem?_eq_getElem hlt]; simp
    have t0 := hrow12.cell ((toksCells_at L s.raw 0 (by omega) hlt).trans rfl)
    rw [← hu] at t0
    simp only [Nat.add_zero] at t0
    have hist : PL.isStop S (types L) s.raw = (u.ty == -1 || !S u.ty) := by unfold PL.isStop; rw [at_types, ← hu]
    have hlk := hset12.run Try.underlying42 Try.underlying4 Try.underlying50 (zeroBool _) (HW.out u hum)
    have HS := Lib.hid hist; clear hist hum hu
    cases hst : PL.isStop S (types L) s.raw
    · have hne : s.raw ≠ s.next := fun e => by
        have := (PL.stop_spec (S := S) (T := types L) s.raw).2
        rw [← HI.out.next, ← e, hst] at this; cases this
      obtain ⟨cur1, hcur1, -⟩ := hx12.row
      have hsz : j57.size ≠ 0 := by obtain ⟨i0, hi, _, hs6, _⟩ := info_parts tokInfo; rw [hj57] at hi; injection hi with hi; rw [hi, hs6]; decide
      have heq := run_eql_ptr_other (P := Try.prog) _ (tp := 57) (a := ⟨tb, s.raw * 6, none⟩) (b := ⟨tb, s.next * 6, none⟩) Try.underlying57 hj57 hsz (by simp [hne]) hcur1 hcur1
      have HS2 := Lib.hid hst; clear hst hcur1
      have hsb : (u.ty == -1 || !S u.ty) = false := by rw [← HS.out]; exact HS2.out
      simp only [Bool.or_eq_false_iff, Bool.not_eq_false'] at hsb
      obtain ⟨hE, hSu⟩ := hsb
      go_wp2_with fail
      go_ret
      exact ⟨rfl, hb12⟩
    · have hne : s.next = s.raw := by rw [HI.out.next]; exact PL.stop_of_stop hst
      have heq := run_eql_ptr_same (P := Try.prog) w12 (tp := 57) ⟨tb, s.raw * 6, none⟩ Try.underlying57 hj57
      have HS2 := Lib.hid hst; clear hst
      have hsb : (u.ty == -1 || !S u.ty) = true := by rw [← HS.out]; exact HS2.out
      cases hE : (u.ty == -1)
      · have hSu : S u.ty = false := by simpa [hE] using hsb
        clear hsb
        rw [hne]
        go_wp2_with fail
        go_ret
        exact ⟨rfl, hb12⟩
      · clear hsb
        rw [hne]
        go_wp2_with fail
        go_ret
        exact ⟨rfl, hb12⟩
end fnRawPeekThenPeek
end Go.Proofs.Ytomfonilbenhbaa
