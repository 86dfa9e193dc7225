/-
  The walk of FnLoadCheckpointLastWins: loading checkpoints: the last one wins, and loading the own checkpoint changes nothing. Conditions: none beyond the statement's own.
-/
import Derived.Test.YtomfonilbenhbaaN9A
import Derived.Test.YtomfonilbenhbaaN9H
namespace Go.Proofs.Ytomfonilbenhbaa
open Go.RowKit
set_option linter.unusedSimpArgs false

theorem below_of_drewN {w w' : World} {n : Nat} (h : w' = w.drewN n) : Below w.heap.size w w' := by rw [h]; exact below_drewN (Below.refl _ _) n
theorem heldR {w0 w' : World} {pb tb mb c nm rb eb en b ba bb iA iB : Nat} {L : List Tok} {S : Int → Bool} {raw next cur r n q : Int} {xs : List Value} {fs : List (Nat × TypeId × Array Value)} {tA tB : Tok}
    (C : Car w0 w' pb tb mb c nm L S raw next cur rb xs eb en fs) (h1 : (b, 49, #[.int .i64 r, .int .i64 n, .int .i64 q]) ∈ fs) (h2 : (ba, 46, #[.int .i64 tA.ty, .string tA.val, .string tA.fn, .int .i64 tA.off, .int .i64 tA.line, .int .i64 tA.col]) ∈ fs) (h3 : (bb, 46, #[.int .i64 tB.ty, .string tB.val, .string tB.fn, .int .i64 tB.off, .int .i64 tB.line, .int .i64 tB.col]) ∈ fs)
    (HA : Hid (tA = L.getD iA eofTok)) (hA : iA < L.length) (HB : Hid (tB = L.getD iB eofTok)) (hB : iB < L.length) :
    Car w0 w' pb tb mb c nm L S raw next cur rb xs eb en fs ∧ w'.cell? ⟨b, 0, none⟩ = some (.int .i64 r) ∧ w'.cell? ⟨b, 1, none⟩ = some (.int .i64 n) ∧ w'.cell? ⟨b, 2, none⟩ = some (.int .i64 q) ∧ w'.cell? ⟨ba, 0, none⟩ = some (.int .i64 tA.ty) ∧ w'.cell? ⟨ba, 1, none⟩ = some (.string tA.val) ∧ w'.cell? ⟨ba, 2, none⟩ = some (.string tA.fn) ∧ w'.cell? ⟨ba, 3, none⟩ = some (.int .i64 tA.off) ∧ w'.cell? ⟨ba, 4, none⟩ = some (.int .i64 tA.line) ∧ w'.cell? ⟨ba, 5, none⟩ = some (.int .i64 tA.col) ∧ w'.cell? ⟨bb, 0, none⟩ = some (.int .i64 tB.ty) ∧ w'.cell? ⟨bb, 1, none⟩ = some (.string tB.val) ∧ w'.cell? ⟨bb, 2, none⟩ = some (.string tB.fn) ∧ w'.cell? ⟨bb, 3, none⟩ = some (.int .i64 tB.off) ∧ w'.cell? ⟨bb, 4, none⟩ = some (.int .i64 tB.line) ∧ w'.cell? ⟨bb, 5, none⟩ = some (.int .i64 tB.col) ∧ w'.cell? ⟨tb, iA * 6, none⟩ = some (.int .i64 tA.ty) ∧ w'.cell? ⟨tb, iA * 6 + 1, none⟩ = some (.string tA.val) ∧ w'.cell? ⟨tb, iA * 6 + 1 + 1, none⟩ = some (.string tA.fn) ∧ w'.cell? ⟨tb, iA * 6 + 1 + 1 + 1, none⟩ = some (.int .i64 tA.off) ∧ w'.cell? ⟨tb, iA * 6 + 1 + 1 + 1 + 1, none⟩ = some (.int .i64 tA.line) ∧ w'.cell? ⟨tb, iA * 6 + 1 + 1 + 1 + 1 + 1, none⟩ = some (.int .i64 tA.col) ∧ w'.cell? ⟨tb, iB * 6, none⟩ = some (.int .i64 tB.ty) ∧ w'.cell? ⟨tb, iB * 6 + 1, none⟩ = some (.string tB.val) ∧ w'.cell? ⟨tb, iB * 6 + 1 + 1, none⟩ = some (.string tB.fn) ∧ w'.cell? ⟨tb, iB * 6 + 1 + 1 + 1, none⟩ = some (.int .i64 tB.off) ∧ w'.cell? ⟨tb, iB * 6 + 1 + 1 + 1 + 1, none⟩ = some (.int .i64 tB.line) ∧ w'.cell? ⟨tb, iB * 6 + 1 + 1 + 1 + 1 + 1, none⟩ = some (.int .i64 tB.col) := by
  have k1 := C.blks _ h1
  have k2 := C.blks _ h2
  have k3 := C.blks _ h3
  obtain ⟨a0, a1, a2, a3, a4, a5⟩ := C.lx.tok hA
  obtain ⟨e0, e1, e2, e3, e4, e5⟩ := C.lx.tok hB
  rw [← HA.out] at a0 a1 a2 a3 a4 a5
  rw [← HB.out] at e0 e1 e2 e3 e4 e5
  exact ⟨C, k1.cell 0, k1.cell 1, k1.cell 2, k2.cell 0, k2.cell 1, k2.cell 2, k2.cell 3, k2.cell 4, k2.cell 5, k3.cell 0, k3.cell 1, k3.cell 2, k3.cell 3, k3.cell 4, k3.cell 5, a0, a1, a2, a3, a4, a5, e0, e1, e2, e3, e4, e5⟩

namespace fnLoadCheckpointLastWins
set_option maxHeartbeats 8000000 in
set_option maxRecDepth 100000 in
theorem walk (A0 : Option Addr) (n0 c0 : Nat) (z0 : List Int) (A1 : Option Addr) (n1 c1 : Nat) (z1 : List ByteArray) (A2 : Option Addr) (n2 c2 : Nat) (z2 : List Int) (k1 : Int) (k2 : Int) (w : World)
    (ht : Ints .i64 w A0 n0 z0) (hv : Strs w A1 n1 z1) (he : Ints .i64 w A2 n2 z2) (_ : (Lit.int .i64 k1).wf = true) (_ : (Lit.int .i64 k2).wf = true) :
    Calls Try.prog 13 #[.slice A0 n0 c0, .slice A1 n1 c1, .slice A2 n2 c2, .int .i64 k1, .int .i64 k2] w fun e w' => e = .returned (.bool true) ∧ Below w.heap.size w w' := by
  have hm0 := ht.2.1
  have hm1 := hv.2.1
  have hm2 := he.2.1
  have HT := Lib.hid ht; clear ht
  have HV := Lib.hid hv; clear hv
  have HE := Lib.hid he; clear he
  by_cases hsmall : n0 ≤ 65536 ∧ n1 ≤ 65536 ∧ n2 ≤ 65536 ∧ 0 ≤ k1 ∧ k1 ≤ 65536 ∧ 0 ≤ k2 ∧ k2 ≤ 65536
  case neg =>
    go_enter Try.func13, Try.ntmps13
    go_wp2_with fail
    refine (zzLoadCheckpointLastWins A0 n0 c0 A1 n1 c1 z1 A2 n2 c2 k1 k2 _ HV.out hm0 hm2).mono ?_
    rintro e w1 ⟨b, rfl, rfl⟩
    unfold maxLen at hm0 hm1 hm2
    cases b
    · go_wp2_with fail
      go_ret
      exact ⟨rfl, Below.refl _ _⟩
    · by_cases hs3 : n0 ≤ 65536 ∧ n1 ≤ 65536 ∧ n2 ≤ 65536
      · obtain ⟨hs0, hs1, hs2⟩ := hs3
        go_wp2_with fail
        refine (bytesOK_any A0 n0 c0 A1 n1 c1 z1 A2 n2 c2 _ HV.out hs0 hs1 hs2).mono ?_
        rintro e w1 ⟨b, rfl, rfl⟩
        cases b
        · go_wp2_with fail
          go_ret
          exact ⟨rfl, Below.refl _ _⟩
        · go_wp2_with fail
          all_goals first | (exfalso; omega) | (go_ret; exact ⟨rfl, Below.refl _ _⟩)
      · go_wp2_with fail
        all_goals first | (exfalso; omega) | (go_ret; exact ⟨rfl, Below.refl _ _⟩)
  case pos =>
    obtain ⟨hs0, hs1, hs2, hk0, hk1, hk2, hk3⟩ := hsmall
    have hF : PL.First (types (b6Toks z0 z1)) ((b6Toks z0 z1).length - 1) := b6Go_first z1 z0 0
    have hw := b6Go_wf z1 z0 0 HT.out.2.2.1
    have hlen : 0 < (b6Toks z0 z1).length ∧ (b6Toks z0 z1).length ≤ z0.length + 1 := b6Go_length z1 z0 0
    rw [HT.out.1] at hlen
    obtain ⟨hle0, hle1⟩ := hlen
    have HW : Hid (∀ t ∈ b6Toks z0 z1, (Lit.int .i64 t.ty).wf = true) := hw; clear hw
    have htoks := fun W hb => toks_any A0 n0 c0 z0 A1 n1 c1 z1 W (HT.out.later hb) (HV.out.later hb) hs0 hs1
    have helide := fun W hb => elide_any A2 n2 c2 z2 W (HE.out.later hb) hs2
    have hfresh := fun W hb => fresh_any A0 n0 c0 z0 A1 n1 c1 z1 A2 n2 c2 z2 k1 W (HT.out.later hb) (HV.out.later hb) (HE.out.later hb) hs0 hs1 hs2 (by omega) (by omega)
    generalize b6Toks z0 z1 = L at *
    generalize inS z2 = S at *
    have hI := PL.inv_run (S := S) hF (k1).toNat
    obtain ⟨s, hs⟩ : ∃ s, s = (PL.fresh S (types L)).run S (types L) (k1).toNat := ⟨_, rfl⟩
    simp only [← hs] at hfresh hI
    have HSD := Lib.hid hs; clear hs
    have HF := Lib.hid hF; clear hF
    have HI := Lib.hid hI; clear hI
    have HTK := Lib.hid htoks; clear htoks
    have HEL := Lib.hid helide; clear helide
    have HFR := Lib.hid hfresh; clear hfresh
    go_enter Try.func13, Try.ntmps13
    go_wp2_with fail
    refine (zzLoadCheckpointLastWins A0 n0 c0 A1 n1 c1 z1 A2 n2 c2 k1 k2 _ HV.out hm0 hm2).mono ?_
    rintro e w1 ⟨b, rfl, rfl⟩
    unfold maxLen at hm0 hm1 hm2
    cases b
    · go_wp2_with fail
      go_ret
      exact ⟨rfl, Below.refl _ _⟩
    go_wp2_with fail
    refine (bytesOK_any A0 n0 c0 A1 n1 c1 z1 A2 n2 c2 _ HV.out hs0 hs1 hs2).mono ?_
    rintro e w1 ⟨b, rfl, rfl⟩
    cases b
    · go_wp2_with fail
      go_ret
      exact ⟨rfl, Below.refl _ _⟩
    go_wp2_with fail
    refine (HTK.out _ (Below.refl _ _)).mono ?_
    rintro e w1 ⟨rb, cap, rfl, hrb, hrow, hb1⟩
    go_wp2_with fail
    refine (HEL.out _ hb1).mono ?_
    rintro e w2 ⟨eb, en, rfl, heb, hset, hb2⟩
    have hrow2 := hrow.later hb2
    have hb2' := below_next hb2 hb1
    clear hrow hb2
    go_wp2_with fail
    refine (HFR.out _ hb2').mono ?_
    rintro e w3 ⟨pb, tb, mb, c, nm, rfl, hpb, htb, hmb, hx, hb3⟩
    have hrow3 := hrow2.later hb3
    have hset3 := hset.later hb3
    have hb3' := below_next hb3 hb2'
    have hpw : w.heap.size ≤ pb := Nat.le_trans hb2'.size hpb
    clear hrow2 hset hb3 hb1 hb2'
    go_wp2_with fail
    have C0 : Car w w3 pb tb mb c nm L S s.raw s.next s.cur rb (toksCells L) eb en [] := ⟨hx, hrow3, hset3, Blks.nil _, hb3'⟩
    clear hx hrow3 hset3 hb3'
    have hn1 : s.next < L.length := by have := HI.out.le; omega
    have hr1 : s.raw < L.length := by have := HI.out.raw; omega
    obtain ⟨t1, ht1⟩ : ∃ t, t = L.getD s.next eofTok := ⟨_, rfl⟩
    obtain ⟨t2, ht2⟩ : ∃ t, t = L.getD s.raw eofTok := ⟨_, rfl⟩
    have HT1 := Lib.hid ht1; clear ht1
    have HT2 := Lib.hid ht2; clear ht2
    refine (make_any _ pb tb mb c nm L S _ _ _ C0.lx).mono ?_
    rintro e w1 ⟨rfl, hb2⟩
    have C3 : Car w w1 pb tb mb c nm L S s.raw s.next s.cur rb (toksCells L) eb en [] := C0.later hb2
    clear C0 hb2
    go_wp2_with fail
    have C4 := C3.alloc #[.int .i64 s.raw, .int .i64 s.next, .int .i64 s.cur] 49
    obtain ⟨b1, eb1⟩ : ∃ b, b = w1.heap.size := ⟨_, rfl⟩
    obtain ⟨W5, eW5⟩ : ∃ W, W = w1.alloc (.cells #[.int .i64 s.raw, .int .i64 s.next, .int .i64 s.cur] 49) := ⟨_, rfl⟩
    rw [← eb1] at C4 ⊢
    rw [← eW5] at C4 ⊢
    clear C3 eb1 eW5
    refine (peek_any _ pb tb mb c nm L S _ _ s.next C4.lx hn1).mono ?_
    rintro e w6 ⟨rfl, q7, hw8⟩
    have C9 : Car w w6 pb tb mb c nm L S s.raw s.next s.cur rb (toksCells L) eb en [(b1, 49, #[.int .i64 s.raw, .int .i64 s.next, .int .i64 s.cur])] := by rw [hw8]; exact C4.drewN q7
    clear C4 hw8
    obtain ⟨-, -, p0, p1, p2, p3, p4, y0, y1, y2, y3, y4, y5, -⟩ := C9.lx.held (World.grownBy.refl _ _) HT1 hn1
    go_wp2_with fail
    clear p0 p1 p2 p3 p4 y0 y1 y2 y3 y4 y5
    have C10 := C9.alloc #[.int .i64 t1.ty, .string t1.val, .string t1.fn, .int .i64 t1.off, .int .i64 t1.line, .int .i64 t1.col] 46
    obtain ⟨b2, eb2⟩ : ∃ b, b = w6.heap.size := ⟨_, rfl⟩
    obtain ⟨W11, eW11⟩ : ∃ W, W = w6.alloc (.cells #[.int .i64 t1.ty, .string t1.val, .string t1.fn, .int .i64 t1.off, .int .i64 t1.line, .int .i64 t1.col] 46) := ⟨_, rfl⟩
    rw [← eb2] at C10 ⊢
    rw [← eW11] at C10 ⊢
    clear C9 eb2 eW11
    refine (rawPeek_any _ pb tb mb c nm L S _ _ s.raw C10.lx hr1).mono ?_
    rintro e w12 ⟨rfl, q13, hw14⟩
    have C15 : Car w w12 pb tb mb c nm L S s.raw s.next s.cur rb (toksCells L) eb en [(b2, 46, #[.int .i64 t1.ty, .string t1.val, .string t1.fn, .int .i64 t1.off, .int .i64 t1.line, .int .i64 t1.col]), (b1, 49, #[.int .i64 s.raw, .int .i64 s.next, .int .i64 s.cur])] := by rw [hw14]; exact C10.drewN q13
    clear C10 hw14
    obtain ⟨-, -, p0, p1, p2, p3, p4, y0, y1, y2, y3, y4, y5, -⟩ := C15.lx.held (World.grownBy.refl _ _) HT2 hr1
    go_wp2_with fail
    clear p0 p1 p2 p3 p4 y0 y1 y2 y3 y4 y5
    have C16 := C15.alloc #[.int .i64 t2.ty, .string t2.val, .string t2.fn, .int .i64 t2.off, .int .i64 t2.line, .int .i64 t2.col] 46
    obtain ⟨b3, eb3⟩ : ∃ b, b = w12.heap.size := ⟨_, rfl⟩
    obtain ⟨W17, eW17⟩ : ∃ W, W = w12.alloc (.cells #[.int .i64 t2.ty, .string t2.val, .string t2.fn, .int .i64 t2.off, .int .i64 t2.line, .int .i64 t2.col] 46) := ⟨_, rfl⟩
    rw [← eb3] at C16 ⊢
    rw [← eW17] at C16 ⊢
    clear C15 eb3 eW17
    go_loopg [17] k2.toNat (fun q i wr => ∃ j : Nat, q = k2.toNat - j ∧ j ≤ k2.toNat ∧ i = .int .i64 j ∧ Car w wr pb tb mb c nm L S ((PL.fresh S (types L)).run S (types L) (k1.toNat + j)).raw ((PL.fresh S (types L)).run S (types L) (k1.toNat + j)).next ((PL.fresh S (types L)).run S (types L) (k1.toNat + j)).cur rb (toksCells L) eb en [(b3, 46, #[.int .i64 t2.ty, .string t2.val, .string t2.fn, .int .i64 t2.off, .int .i64 t2.line, .int .i64 t2.col]), (b2, 46, #[.int .i64 t1.ty, .string t1.val, .string t1.fn, .int .i64 t1.off, .int .i64 t1.line, .int .i64 t1.col]), (b1, 49, #[.int .i64 s.raw, .int .i64 s.next, .int .i64 s.cur])])
    case atStart => exact ⟨0, rfl, Nat.zero_le _, rfl, by rw [Nat.add_zero, ← HSD.out]; exact C16⟩
    case round =>
      obtain ⟨j, hq, hj, rfl, Cj⟩ := hrel
      have KK := Lib.hid hq; clear hq
      clear C16
      by_cases hlt : j < k2.toNat
      case pos =>
        have hjk : (j : Int) < k2 := by omega
        have hIj := PL.inv_run (S := S) HF.out (k1.toNat + j)
        have hstep : (PL.fresh S (types L)).run S (types L) (k1.toNat + (j + 1)) = ((PL.fresh S (types L)).run S (types L) (k1.toNat + j)).step S (types L) := rfl
        generalize ((PL.fresh S (types L)).run S (types L) (k1.toNat + j)) = sj at *
        have HJ := Lib.hid hIj; clear hIj
        have HST := Lib.hid hstep; clear hstep
        go_wp2_with fail
        refine (next_any _ pb tb mb c nm L S sj Cj.lx (L.length - 1) HF.out (by omega) HJ.out.le (by have := HJ.out.most; omega)).mono ?_
        rintro e w9 ⟨rfl, hg9, hx9⟩
        have C9 := Cj.grow hg9 hx9 (by simp) hpw
        clear Cj hg9 hx9
        go_wp2_with fail
        go_roundg (k2.toNat - (j + 1))
        case measure => rw [KK.out]; omega
        case rel => exact ⟨j + 1, rfl, by omega, by go_num, by rw [HST.out]; exact C9⟩
      case neg =>
        have hjk : ¬ (j : Int) < k2 := by omega
        have hje : j = k2.toNat := by omega
        have HJE := Lib.hid hje; clear hje
        have hIj := PL.inv_run (S := S) HF.out (k1.toNat + j)
        generalize ((PL.fresh S (types L)).run S (types L) (k1.toNat + j)) = u at *
        have HJ := Lib.hid hIj; clear hIj
        have hn2 : u.next < L.length := by have := HJ.out.le; omega
        have hr2 : u.raw < L.length := by have := HJ.out.raw; omega
        obtain ⟨t3, ht3⟩ : ∃ t, t = L.getD u.next eofTok := ⟨_, rfl⟩
        obtain ⟨t4, ht4⟩ : ∃ t, t = L.getD u.raw eofTok := ⟨_, rfl⟩
        have HT3 := Lib.hid ht3; clear ht3
        have HT4 := Lib.hid ht4; clear ht4
        go_wp2_with fail
        refine (make_any _ pb tb mb c nm L S _ _ _ Cj.lx).mono ?_
        rintro e w18 ⟨rfl, hb19⟩
        have C20 : Car w w18 pb tb mb c nm L S u.raw u.next u.cur rb (toksCells L) eb en [(b3, 46, #[.int .i64 t2.ty, .string t2.val, .string t2.fn, .int .i64 t2.off, .int .i64 t2.line, .int .i64 t2.col]), (b2, 46, #[.int .i64 t1.ty, .string t1.val, .string t1.fn, .int .i64 t1.off, .int .i64 t1.line, .int .i64 t1.col]), (b1, 49, #[.int .i64 s.raw, .int .i64 s.next, .int .i64 s.cur])] := Cj.later hb19
        clear Cj hb19
        go_wp2_with fail
        have C21 := C20.alloc #[.int .i64 u.raw, .int .i64 u.next, .int .i64 u.cur] 49
        obtain ⟨b4, eb4⟩ : ∃ b, b = w18.heap.size := ⟨_, rfl⟩
        obtain ⟨W22, eW22⟩ : ∃ W, W = w18.alloc (.cells #[.int .i64 u.raw, .int .i64 u.next, .int .i64 u.cur] 49) := ⟨_, rfl⟩
        rw [← eb4] at C21 ⊢
        rw [← eW22] at C21 ⊢
        clear C20 eb4 eW22
        refine (peek_any _ pb tb mb c nm L S _ _ u.next C21.lx hn2).mono ?_
        rintro e w23 ⟨rfl, q24, hw25⟩
        have C26 : Car w w23 pb tb mb c nm L S u.raw u.next u.cur rb (toksCells L) eb en [(b4, 49, #[.int .i64 u.raw, .int .i64 u.next, .int .i64 u.cur]), (b3, 46, #[.int .i64 t2.ty, .string t2.val, .string t2.fn, .int .i64 t2.off, .int .i64 t2.line, .int .i64 t2.col]), (b2, 46, #[.int .i64 t1.ty, .string t1.val, .string t1.fn, .int .i64 t1.off, .int .i64 t1.line, .int .i64 t1.col]), (b1, 49, #[.int .i64 s.raw, .int .i64 s.next, .int .i64 s.cur])] := by rw [hw25]; exact C21.drewN q24
        clear C21 hw25
        obtain ⟨-, -, p0, p1, p2, p3, p4, y0, y1, y2, y3, y4, y5, -⟩ := C26.lx.held (World.grownBy.refl _ _) HT3 hn2
        go_wp2_with fail
        clear p0 p1 p2 p3 p4 y0 y1 y2 y3 y4 y5
        have C27 := C26.alloc #[.int .i64 t3.ty, .string t3.val, .string t3.fn, .int .i64 t3.off, .int .i64 t3.line, .int .i64 t3.col] 46
        obtain ⟨b5, eb5⟩ : ∃ b, b = w23.heap.size := ⟨_, rfl⟩
        obtain ⟨W28, eW28⟩ : ∃ W, W = w23.alloc (.cells #[.int .i64 t3.ty, .string t3.val, .string t3.fn, .int .i64 t3.off, .int .i64 t3.line, .int .i64 t3.col] 46) := ⟨_, rfl⟩
        rw [← eb5] at C27 ⊢
        rw [← eW28] at C27 ⊢
        clear C26 eb5 eW28
        refine (rawPeek_any _ pb tb mb c nm L S _ _ u.raw C27.lx hr2).mono ?_
        rintro e w29 ⟨rfl, q30, hw31⟩
        have C32 : Car w w29 pb tb mb c nm L S u.raw u.next u.cur rb (toksCells L) eb en [(b5, 46, #[.int .i64 t3.ty, .string t3.val, .string t3.fn, .int .i64 t3.off, .int .i64 t3.line, .int .i64 t3.col]), (b4, 49, #[.int .i64 u.raw, .int .i64 u.next, .int .i64 u.cur]), (b3, 46, #[.int .i64 t2.ty, .string t2.val, .string t2.fn, .int .i64 t2.off, .int .i64 t2.line, .int .i64 t2.col]), (b2, 46, #[.int .i64 t1.ty, .string t1.val, .string t1.fn, .int .i64 t1.off, .int .i64 t1.line, .int .i64 t1.col]), (b1, 49, #[.int .i64 s.raw, .int .i64 s.next, .int .i64 s.cur])] := by rw [hw31]; exact C27.drewN q30
        clear C27 hw31
        obtain ⟨-, -, p0, p1, p2, p3, p4, y0, y1, y2, y3, y4, y5, -⟩ := C32.lx.held (World.grownBy.refl _ _) HT4 hr2
        have kk := C32.blks (b1, 49, #[.int .i64 s.raw, .int .i64 s.next, .int .i64 s.cur]) (by simp)
        have l0 := kk.cell 0
        have l1 := kk.cell 1
        have l2 := kk.cell 2
        simp at l0 l1 l2
        clear kk
        have ll := (C32.blks (b1, 49, #[.int .i64 s.raw, .int .i64 s.next, .int .i64 s.cur]) (by simp)).lt
        go_wp2_with fail
        clear p0 p1 p2 p3 p4 y0 y1 y2 y3 y4 y5 l0 l1 l2 ll
        have C33 := C32.alloc #[.int .i64 t4.ty, .string t4.val, .string t4.fn, .int .i64 t4.off, .int .i64 t4.line, .int .i64 t4.col] 46
        obtain ⟨b6, eb6⟩ : ∃ b, b = w29.heap.size := ⟨_, rfl⟩
        obtain ⟨W34, eW34⟩ : ∃ W, W = w29.alloc (.cells #[.int .i64 t4.ty, .string t4.val, .string t4.fn, .int .i64 t4.off, .int .i64 t4.line, .int .i64 t4.col] 46) := ⟨_, rfl⟩
        rw [← eb6] at C33 ⊢
        rw [← eW34] at C33 ⊢
        clear C32 eb6 eW34
        refine (load_any _ pb tb mb c nm L S _ _ _ _ _ _ C33.lx).mono ?_
        rintro e w35 ⟨rfl, hg36, hx37⟩
        have C38 : Car w w35 pb tb mb c nm L S s.raw s.next s.cur rb (toksCells L) eb en [(b6, 46, #[.int .i64 t4.ty, .string t4.val, .string t4.fn, .int .i64 t4.off, .int .i64 t4.line, .int .i64 t4.col]), (b5, 46, #[.int .i64 t3.ty, .string t3.val, .string t3.fn, .int .i64 t3.off, .int .i64 t3.line, .int .i64 t3.col]), (b4, 49, #[.int .i64 u.raw, .int .i64 u.next, .int .i64 u.cur]), (b3, 46, #[.int .i64 t2.ty, .string t2.val, .string t2.fn, .int .i64 t2.off, .int .i64 t2.line, .int .i64 t2.col]), (b2, 46, #[.int .i64 t1.ty, .string t1.val, .string t1.fn, .int .i64 t1.off, .int .i64 t1.line, .int .i64 t1.col]), (b1, 49, #[.int .i64 s.raw, .int .i64 s.next, .int .i64 s.cur])] := C33.grow hg36 hx37 (by simp) hpw
        clear C33 hg36 hx37
        have kk := C38.blks (b4, 49, #[.int .i64 u.raw, .int .i64 u.next, .int .i64 u.cur]) (by simp)
        have l0 := kk.cell 0
        have l1 := kk.cell 1
        have l2 := kk.cell 2
        simp at l0 l1 l2
        clear kk
        go_wp2_with fail
        refine (load_any _ pb tb mb c nm L S _ _ _ _ _ _ C38.lx).mono ?_
        rintro e w39 ⟨rfl, hg40, hx41⟩
        have C42 : Car w w39 pb tb mb c nm L S u.raw u.next u.cur rb (toksCells L) eb en [(b6, 46, #[.int .i64 t4.ty, .string t4.val, .string t4.fn, .int .i64 t4.off, .int .i64 t4.line, .int .i64 t4.col]), (b5, 46, #[.int .i64 t3.ty, .string t3.val, .string t3.fn, .int .i64 t3.off, .int .i64 t3.line, .int .i64 t3.col]), (b4, 49, #[.int .i64 u.raw, .int .i64 u.next, .int .i64 u.cur]), (b3, 46, #[.int .i64 t2.ty, .string t2.val, .string t2.fn, .int .i64 t2.off, .int .i64 t2.line, .int .i64 t2.col]), (b2, 46, #[.int .i64 t1.ty, .string t1.val, .string t1.fn, .int .i64 t1.off, .int .i64 t1.line, .int .i64 t1.col]), (b1, 49, #[.int .i64 s.raw, .int .i64 s.next, .int .i64 s.cur])] := C38.grow hg40 hx41 (by simp) hpw
        clear C38 hg40 hx41
        clear l0 l1 l2
        go_wp2_with fail
        go_region_held3 (fun w' => Car w w' pb tb mb c nm L S u.raw u.next u.cur rb (toksCells L) eb en [(b6, 46, #[.int .i64 t4.ty, .string t4.val, .string t4.fn, .int .i64 t4.off, .int .i64 t4.line, .int .i64 t4.col]), (b5, 46, #[.int .i64 t3.ty, .string t3.val, .string t3.fn, .int .i64 t3.off, .int .i64 t3.line, .int .i64 t3.col]), (b4, 49, #[.int .i64 u.raw, .int .i64 u.next, .int .i64 u.cur]), (b3, 46, #[.int .i64 t2.ty, .string t2.val, .string t2.fn, .int .i64 t2.off, .int .i64 t2.line, .int .i64 t2.col]), (b2, 46, #[.int .i64 t1.ty, .string t1.val, .string t1.fn, .int .i64 t1.off, .int .i64 t1.line, .int .i64 t1.col]), (b1, 49, #[.int .i64 s.raw, .int .i64 s.next, .int .i64 s.cur])] ∧ w'.cell? ⟨b4, 0, none⟩ = some (.int .i64 u.raw) ∧ w'.cell? ⟨b4, 1, none⟩ = some (.int .i64 u.next) ∧ w'.cell? ⟨b4, 2, none⟩ = some (.int .i64 u.cur) ∧ w'.cell? ⟨b5, 0, none⟩ = some (.int .i64 t3.ty) ∧ w'.cell? ⟨b5, 1, none⟩ = some (.string t3.val) ∧ w'.cell? ⟨b5, 2, none⟩ = some (.string t3.fn) ∧ w'.cell? ⟨b5, 3, none⟩ = some (.int .i64 t3.off) ∧ w'.cell? ⟨b5, 4, none⟩ = some (.int .i64 t3.line) ∧ w'.cell? ⟨b5, 5, none⟩ = some (.int .i64 t3.col) ∧ w'.cell? ⟨b6, 0, none⟩ = some (.int .i64 t4.ty) ∧ w'.cell? ⟨b6, 1, none⟩ = some (.string t4.val) ∧ w'.cell? ⟨b6, 2, none⟩ = some (.string t4.fn) ∧ w'.cell? ⟨b6, 3, none⟩ = some (.int .i64 t4.off) ∧ w'.cell? ⟨b6, 4, none⟩ = some (.int .i64 t4.line) ∧ w'.cell? ⟨b6, 5, none⟩ = some (.int .i64 t4.col) ∧ w'.cell? ⟨tb, u.next * 6, none⟩ = some (.int .i64 t3.ty) ∧ w'.cell? ⟨tb, u.next * 6 + 1, none⟩ = some (.string t3.val) ∧ w'.cell? ⟨tb, u.next * 6 + 1 + 1, none⟩ = some (.string t3.fn) ∧ w'.cell? ⟨tb, u.next * 6 + 1 + 1 + 1, none⟩ = some (.int .i64 t3.off) ∧ w'.cell? ⟨tb, u.next * 6 + 1 + 1 + 1 + 1, none⟩ = some (.int .i64 t3.line) ∧ w'.cell? ⟨tb, u.next * 6 + 1 + 1 + 1 + 1 + 1, none⟩ = some (.int .i64 t3.col) ∧ w'.cell? ⟨tb, u.raw * 6, none⟩ = some (.int .i64 t4.ty) ∧ w'.cell? ⟨tb, u.raw * 6 + 1, none⟩ = some (.string t4.val) ∧ w'.cell? ⟨tb, u.raw * 6 + 1 + 1, none⟩ = some (.string t4.fn) ∧ w'.cell? ⟨tb, u.raw * 6 + 1 + 1 + 1, none⟩ = some (.int .i64 t4.off) ∧ w'.cell? ⟨tb, u.raw * 6 + 1 + 1 + 1 + 1, none⟩ = some (.int .i64 t4.line) ∧ w'.cell? ⟨tb, u.raw * 6 + 1 + 1 + 1 + 1 + 1, none⟩ = some (.int .i64 t4.col))
          (first | assumption | exact heldR C42.drew (b := b4) (ba := b5) (bb := b6) (by simp) (by simp) (by simp) HT3 hn2 HT4 hr2 | (go_split_ands; exact heldR (Car.later (by assumption) hbl) (b := b4) (ba := b5) (bb := b6) (by simp) (by simp) (by simp) HT3 hn2 HT4 hr2))
          (first | (go_at_call 34; refine (make_any _ pb tb mb c nm L S _ _ _ (by go_split_ands; exact Car.lx (by assumption))).mono ?_; rintro e w' ⟨rfl, hbl⟩) | (go_at_call 25; refine (peek_any _ pb tb mb c nm L S _ _ _ (by go_split_ands; exact Car.lx (by assumption)) hn2).mono ?_; rintro e w' ⟨rfl, q, hwq⟩; have hbl := below_of_drewN hwq; clear hwq) | (go_at_call 24; refine (rawPeek_any _ pb tb mb c nm L S _ _ _ (by go_split_ands; exact Car.lx (by assumption)) hr2).mono ?_; rintro e w' ⟨rfl, q, hwq⟩; have hbl := below_of_drewN hwq; clear hwq))
        obtain ⟨C43, -⟩ := ‹Car w _ pb tb mb c nm L S u.raw u.next u.cur rb (toksCells L) eb en [(b6, 46, #[.int .i64 t4.ty, .string t4.val, .string t4.fn, .int .i64 t4.off, .int .i64 t4.line, .int .i64 t4.col]), (b5, 46, #[.int .i64 t3.ty, .string t3.val, .string t3.fn, .int .i64 t3.off, .int .i64 t3.line, .int .i64 t3.col]), (b4, 49, #[.int .i64 u.raw, .int .i64 u.next, .int .i64 u.cur]), (b3, 46, #[.int .i64 t2.ty, .string t2.val, .string t2.fn, .int .i64 t2.off, .int .i64 t2.line, .int .i64 t2.col]), (b2, 46, #[.int .i64 t1.ty, .string t1.val, .string t1.fn, .int .i64 t1.off, .int .i64 t1.line, .int .i64 t1.col]), (b1, 49, #[.int .i64 s.raw, .int .i64 s.next, .int .i64 s.cur])] ∧ _›
        clear C42
        have hkk : (k1 + k2).toNat = k1.toNat + j := by rw [HJE.out]; omega
        have HKK := Lib.hid hkk; clear hkk
        go_wp2_with fail
        refine (after_any _ rb eb cap en L S (k1 + k2) C43.row C43.set HW.out (by omega) hle0 HF.out (by omega) (by omega)).mono ?_
        rintro e wA ⟨r, d, rfl, hA, hbA⟩
        rw [HKK.out] at hA
        obtain ⟨hr9, hr8⟩ := HJ.out.unique hA.le hA.cnt hA.last hA.most hA.all
        subst hr9
        subst hr8
        clear hA
        have C44 : Car w wA pb tb mb c nm L S u.raw u.next u.cur rb (toksCells L) eb en [(b6, 46, #[.int .i64 t4.ty, .string t4.val, .string t4.fn, .int .i64 t4.off, .int .i64 t4.line, .int .i64 t4.col]), (b5, 46, #[.int .i64 t3.ty, .string t3.val, .string t3.fn, .int .i64 t3.off, .int .i64 t3.line, .int .i64 t3.col]), (b4, 49, #[.int .i64 u.raw, .int .i64 u.next, .int .i64 u.cur]), (b3, 46, #[.int .i64 t2.ty, .string t2.val, .string t2.fn, .int .i64 t2.off, .int .i64 t2.line, .int .i64 t2.col]), (b2, 46, #[.int .i64 t1.ty, .string t1.val, .string t1.fn, .int .i64 t1.off, .int .i64 t1.line, .int .i64 t1.col]), (b1, 49, #[.int .i64 s.raw, .int .i64 s.next, .int .i64 s.cur])] := C43.later hbA
        clear C43 hbA
        obtain ⟨-, -, p0, p1, p2, p3, p4, -⟩ := C44.lx.held (World.grownBy.refl _ _) HT3 hn2
        go_wp2_with fail
        refine (cursor_any _ _ _ _).mono ?_
        rintro e wB ⟨rfl, hbB⟩
        clear p0 p1 p2 p3 p4
        have C45 : Car w wB pb tb mb c nm L S u.raw u.next u.cur rb (toksCells L) eb en [(b6, 46, #[.int .i64 t4.ty, .string t4.val, .string t4.fn, .int .i64 t4.off, .int .i64 t4.line, .int .i64 t4.col]), (b5, 46, #[.int .i64 t3.ty, .string t3.val, .string t3.fn, .int .i64 t3.off, .int .i64 t3.line, .int .i64 t3.col]), (b4, 49, #[.int .i64 u.raw, .int .i64 u.next, .int .i64 u.cur]), (b3, 46, #[.int .i64 t2.ty, .string t2.val, .string t2.fn, .int .i64 t2.off, .int .i64 t2.line, .int .i64 t2.col]), (b2, 46, #[.int .i64 t1.ty, .string t1.val, .string t1.fn, .int .i64 t1.off, .int .i64 t1.line, .int .i64 t1.col]), (b1, 49, #[.int .i64 s.raw, .int .i64 s.next, .int .i64 s.cur])] := C44.later hbB
        clear C44 hbB
        obtain ⟨-, -, p0, p1, p2, p3, p4, -⟩ := C45.lx.held (World.grownBy.refl _ _) HT3 hn2
        go_wp2_with fail
        refine (rawCursor_any _ _ _ _).mono ?_
        rintro e wC ⟨rfl, hbC⟩
        clear p0 p1 p2 p3 p4
        have C46 : Car w wC pb tb mb c nm L S u.raw u.next u.cur rb (toksCells L) eb en [(b6, 46, #[.int .i64 t4.ty, .string t4.val, .string t4.fn, .int .i64 t4.off, .int .i64 t4.line, .int .i64 t4.col]), (b5, 46, #[.int .i64 t3.ty, .string t3.val, .string t3.fn, .int .i64 t3.off, .int .i64 t3.line, .int .i64 t3.col]), (b4, 49, #[.int .i64 u.raw, .int .i64 u.next, .int .i64 u.cur]), (b3, 46, #[.int .i64 t2.ty, .string t2.val, .string t2.fn, .int .i64 t2.off, .int .i64 t2.line, .int .i64 t2.col]), (b2, 46, #[.int .i64 t1.ty, .string t1.val, .string t1.fn, .int .i64 t1.off, .int .i64 t1.line, .int .i64 t1.col]), (b1, 49, #[.int .i64 s.raw, .int .i64 s.next, .int .i64 s.cur])] := C45.later hbC
        clear C45 hbC
        have kk := C46.blks (b1, 49, #[.int .i64 s.raw, .int .i64 s.next, .int .i64 s.cur]) (by simp)
        have l0 := kk.cell 0
        have l1 := kk.cell 1
        have l2 := kk.cell 2
        simp at l0 l1 l2
        clear kk
        go_wp2_with fail
        refine (load_any _ pb tb mb c nm L S _ _ _ _ _ _ C46.lx).mono ?_
        rintro e w47 ⟨rfl, hg48, hx49⟩
        have C50 : Car w w47 pb tb mb c nm L S s.raw s.next s.cur rb (toksCells L) eb en [(b6, 46, #[.int .i64 t4.ty, .string t4.val, .string t4.fn, .int .i64 t4.off, .int .i64 t4.line, .int .i64 t4.col]), (b5, 46, #[.int .i64 t3.ty, .string t3.val, .string t3.fn, .int .i64 t3.off, .int .i64 t3.line, .int .i64 t3.col]), (b4, 49, #[.int .i64 u.raw, .int .i64 u.next, .int .i64 u.cur]), (b3, 46, #[.int .i64 t2.ty, .string t2.val, .string t2.fn, .int .i64 t2.off, .int .i64 t2.line, .int .i64 t2.col]), (b2, 46, #[.int .i64 t1.ty, .string t1.val, .string t1.fn, .int .i64 t1.off, .int .i64 t1.line, .int .i64 t1.col]), (b1, 49, #[.int .i64 s.raw, .int .i64 s.next, .int .i64 s.cur])] := C46.grow hg48 hx49 (by simp) hpw
        clear C46 hg48 hx49
        clear l0 l1 l2
        go_wp2_with fail
        go_region_held3 (fun w' => Car w w' pb tb mb c nm L S s.raw s.next s.cur rb (toksCells L) eb en [(b6, 46, #[.int .i64 t4.ty, .string t4.val, .string t4.fn, .int .i64 t4.off, .int .i64 t4.line, .int .i64 t4.col]), (b5, 46, #[.int .i64 t3.ty, .string t3.val, .string t3.fn, .int .i64 t3.off, .int .i64 t3.line, .int .i64 t3.col]), (b4, 49, #[.int .i64 u.raw, .int .i64 u.next, .int .i64 u.cur]), (b3, 46, #[.int .i64 t2.ty, .string t2.val, .string t2.fn, .int .i64 t2.off, .int .i64 t2.line, .int .i64 t2.col]), (b2, 46, #[.int .i64 t1.ty, .string t1.val, .string t1.fn, .int .i64 t1.off, .int .i64 t1.line, .int .i64 t1.col]), (b1, 49, #[.int .i64 s.raw, .int .i64 s.next, .int .i64 s.cur])] ∧ w'.cell? ⟨b1, 0, none⟩ = some (.int .i64 s.raw) ∧ w'.cell? ⟨b1, 1, none⟩ = some (.int .i64 s.next) ∧ w'.cell? ⟨b1, 2, none⟩ = some (.int .i64 s.cur) ∧ w'.cell? ⟨b2, 0, none⟩ = some (.int .i64 t1.ty) ∧ w'.cell? ⟨b2, 1, none⟩ = some (.string t1.val) ∧ w'.cell? ⟨b2, 2, none⟩ = some (.string t1.fn) ∧ w'.cell? ⟨b2, 3, none⟩ = some (.int .i64 t1.off) ∧ w'.cell? ⟨b2, 4, none⟩ = some (.int .i64 t1.line) ∧ w'.cell? ⟨b2, 5, none⟩ = some (.int .i64 t1.col) ∧ w'.cell? ⟨b3, 0, none⟩ = some (.int .i64 t2.ty) ∧ w'.cell? ⟨b3, 1, none⟩ = some (.string t2.val) ∧ w'.cell? ⟨b3, 2, none⟩ = some (.string t2.fn) ∧ w'.cell? ⟨b3, 3, none⟩ = some (.int .i64 t2.off) ∧ w'.cell? ⟨b3, 4, none⟩ = some (.int .i64 t2.line) ∧ w'.cell? ⟨b3, 5, none⟩ = some (.int .i64 t2.col) ∧ w'.cell? ⟨tb, s.next * 6, none⟩ = some (.int .i64 t1.ty) ∧ w'.cell? ⟨tb, s.next * 6 + 1, none⟩ = some (.string t1.val) ∧ w'.cell? ⟨tb, s.next * 6 + 1 + 1, none⟩ = some (.string t1.fn) ∧ w'.cell? ⟨tb, s.next * 6 + 1 + 1 + 1, none⟩ = some (.int .i64 t1.off) ∧ w'.cell? ⟨tb, s.next * 6 + 1 + 1 + 1 + 1, none⟩ = some (.int .i64 t1.line) ∧ w'.cell? ⟨tb, s.next * 6 + 1 + 1 + 1 + 1 + 1, none⟩ = some (.int .i64 t1.col) ∧ w'.cell? ⟨tb, s.raw * 6, none⟩ = some (.int .i64 t2.ty) ∧ w'.cell? ⟨tb, s.raw * 6 + 1, none⟩ = some (.string t2.val) ∧ w'.cell? ⟨tb, s.raw * 6 + 1 + 1, none⟩ = some (.string t2.fn) ∧ w'.cell? ⟨tb, s.raw * 6 + 1 + 1 + 1, none⟩ = some (.int .i64 t2.off) ∧ w'.cell? ⟨tb, s.raw * 6 + 1 + 1 + 1 + 1, none⟩ = some (.int .i64 t2.line) ∧ w'.cell? ⟨tb, s.raw * 6 + 1 + 1 + 1 + 1 + 1, none⟩ = some (.int .i64 t2.col))
          (first | assumption | exact heldR C50.drew (b := b1) (ba := b2) (bb := b3) (by simp) (by simp) (by simp) HT1 hn1 HT2 hr1 | (go_split_ands; exact heldR (Car.later (by assumption) hbl) (b := b1) (ba := b2) (bb := b3) (by simp) (by simp) (by simp) HT1 hn1 HT2 hr1))
          (first | (go_at_call 34; refine (make_any _ pb tb mb c nm L S _ _ _ (by go_split_ands; exact Car.lx (by assumption))).mono ?_; rintro e w' ⟨rfl, hbl⟩) | (go_at_call 25; refine (peek_any _ pb tb mb c nm L S _ _ _ (by go_split_ands; exact Car.lx (by assumption)) hn1).mono ?_; rintro e w' ⟨rfl, q, hwq⟩; have hbl := below_of_drewN hwq; clear hwq) | (go_at_call 24; refine (rawPeek_any _ pb tb mb c nm L S _ _ _ (by go_split_ands; exact Car.lx (by assumption)) hr1).mono ?_; rintro e w' ⟨rfl, q, hwq⟩; have hbl := below_of_drewN hwq; clear hwq))
        obtain ⟨C51, -⟩ := ‹Car w _ pb tb mb c nm L S s.raw s.next s.cur rb (toksCells L) eb en [(b6, 46, #[.int .i64 t4.ty, .string t4.val, .string t4.fn, .int .i64 t4.off, .int .i64 t4.line, .int .i64 t4.col]), (b5, 46, #[.int .i64 t3.ty, .string t3.val, .string t3.fn, .int .i64 t3.off, .int .i64 t3.line, .int .i64 t3.col]), (b4, 49, #[.int .i64 u.raw, .int .i64 u.next, .int .i64 u.cur]), (b3, 46, #[.int .i64 t2.ty, .string t2.val, .string t2.fn, .int .i64 t2.off, .int .i64 t2.line, .int .i64 t2.col]), (b2, 46, #[.int .i64 t1.ty, .string t1.val, .string t1.fn, .int .i64 t1.off, .int .i64 t1.line, .int .i64 t1.col]), (b1, 49, #[.int .i64 s.raw, .int .i64 s.next, .int .i64 s.cur])] ∧ _›
        clear C50
        go_wp2_with fail
        refine (make_any _ pb tb mb c nm L S _ _ _ C51.lx).mono ?_
        rintro e w52 ⟨rfl, hb53⟩
        have C54 : Car w w52 pb tb mb c nm L S s.raw s.next s.cur rb (toksCells L) eb en [(b6, 46, #[.int .i64 t4.ty, .string t4.val, .string t4.fn, .int .i64 t4.off, .int .i64 t4.line, .int .i64 t4.col]), (b5, 46, #[.int .i64 t3.ty, .string t3.val, .string t3.fn, .int .i64 t3.off, .int .i64 t3.line, .int .i64 t3.col]), (b4, 49, #[.int .i64 u.raw, .int .i64 u.next, .int .i64 u.cur]), (b3, 46, #[.int .i64 t2.ty, .string t2.val, .string t2.fn, .int .i64 t2.off, .int .i64 t2.line, .int .i64 t2.col]), (b2, 46, #[.int .i64 t1.ty, .string t1.val, .string t1.fn, .int .i64 t1.off, .int .i64 t1.line, .int .i64 t1.col]), (b1, 49, #[.int .i64 s.raw, .int .i64 s.next, .int .i64 s.cur])] := C51.later hb53
        clear C51 hb53
        go_wp2_with fail
        refine (load_any _ pb tb mb c nm L S _ _ _ _ _ _ C54.lx).mono ?_
        rintro e w55 ⟨rfl, hg56, hx57⟩
        have C58 : Car w w55 pb tb mb c nm L S s.raw s.next s.cur rb (toksCells L) eb en [(b6, 46, #[.int .i64 t4.ty, .string t4.val, .string t4.fn, .int .i64 t4.off, .int .i64 t4.line, .int .i64 t4.col]), (b5, 46, #[.int .i64 t3.ty, .string t3.val, .string t3.fn, .int .i64 t3.off, .int .i64 t3.line, .int .i64 t3.col]), (b4, 49, #[.int .i64 u.raw, .int .i64 u.next, .int .i64 u.cur]), (b3, 46, #[.int .i64 t2.ty, .string t2.val, .string t2.fn, .int .i64 t2.off, .int .i64 t2.line, .int .i64 t2.col]), (b2, 46, #[.int .i64 t1.ty, .string t1.val, .string t1.fn, .int .i64 t1.off, .int .i64 t1.line, .int .i64 t1.col]), (b1, 49, #[.int .i64 s.raw, .int .i64 s.next, .int .i64 s.cur])] := C54.grow hg56 hx57 (by simp) hpw
        clear C54 hg56 hx57
        go_wp2_with fail
        go_region_held3 (fun w' => Car w w' pb tb mb c nm L S s.raw s.next s.cur rb (toksCells L) eb en [(b6, 46, #[.int .i64 t4.ty, .string t4.val, .string t4.fn, .int .i64 t4.off, .int .i64 t4.line, .int .i64 t4.col]), (b5, 46, #[.int .i64 t3.ty, .string t3.val, .string t3.fn, .int .i64 t3.off, .int .i64 t3.line, .int .i64 t3.col]), (b4, 49, #[.int .i64 u.raw, .int .i64 u.next, .int .i64 u.cur]), (b3, 46, #[.int .i64 t2.ty, .string t2.val, .string t2.fn, .int .i64 t2.off, .int .i64 t2.line, .int .i64 t2.col]), (b2, 46, #[.int .i64 t1.ty, .string t1.val, .string t1.fn, .int .i64 t1.off, .int .i64 t1.line, .int .i64 t1.col]), (b1, 49, #[.int .i64 s.raw, .int .i64 s.next, .int .i64 s.cur])] ∧ w'.cell? ⟨b1, 0, none⟩ = some (.int .i64 s.raw) ∧ w'.cell? ⟨b1, 1, none⟩ = some (.int .i64 s.next) ∧ w'.cell? ⟨b1, 2, none⟩ = some (.int .i64 s.cur) ∧ w'.cell? ⟨b2, 0, none⟩ = some (.int .i64 t1.ty) ∧ w'.cell? ⟨b2, 1, none⟩ = some (.string t1.val) ∧ w'.cell? ⟨b2, 2, none⟩ = some (.string t1.fn) ∧ w'.cell? ⟨b2, 3, none⟩ = some (.int .i64 t1.off) ∧ w'.cell? ⟨b2, 4, none⟩ = some (.int .i64 t1.line) ∧ w'.cell? ⟨b2, 5, none⟩ = some (.int .i64 t1.col) ∧ w'.cell? ⟨b3, 0, none⟩ = some (.int .i64 t2.ty) ∧ w'.cell? ⟨b3, 1, none⟩ = some (.string t2.val) ∧ w'.cell? ⟨b3, 2, none⟩ = some (.string t2.fn) ∧ w'.cell? ⟨b3, 3, none⟩ = some (.int .i64 t2.off) ∧ w'.cell? ⟨b3, 4, none⟩ = some (.int .i64 t2.line) ∧ w'.cell? ⟨b3, 5, none⟩ = some (.int .i64 t2.col) ∧ w'.cell? ⟨tb, s.next * 6, none⟩ = some (.int .i64 t1.ty) ∧ w'.cell? ⟨tb, s.next * 6 + 1, none⟩ = some (.string t1.val) ∧ w'.cell? ⟨tb, s.next * 6 + 1 + 1, none⟩ = some (.string t1.fn) ∧ w'.cell? ⟨tb, s.next * 6 + 1 + 1 + 1, none⟩ = some (.int .i64 t1.off) ∧ w'.cell? ⟨tb, s.next * 6 + 1 + 1 + 1 + 1, none⟩ = some (.int .i64 t1.line) ∧ w'.cell? ⟨tb, s.next * 6 + 1 + 1 + 1 + 1 + 1, none⟩ = some (.int .i64 t1.col) ∧ w'.cell? ⟨tb, s.raw * 6, none⟩ = some (.int .i64 t2.ty) ∧ w'.cell? ⟨tb, s.raw * 6 + 1, none⟩ = some (.string t2.val) ∧ w'.cell? ⟨tb, s.raw * 6 + 1 + 1, none⟩ = some (.string t2.fn) ∧ w'.cell? ⟨tb, s.raw * 6 + 1 + 1 + 1, none⟩ = some (.int .i64 t2.off) ∧ w'.cell? ⟨tb, s.raw * 6 + 1 + 1 + 1 + 1, none⟩ = some (.int .i64 t2.line) ∧ w'.cell? ⟨tb, s.raw * 6 + 1 + 1 + 1 + 1 + 1, none⟩ = some (.int .i64 t2.col))
          (first | assumption | exact heldR C58.drew (b := b1) (ba := b2) (bb := b3) (by simp) (by simp) (by simp) HT1 hn1 HT2 hr1 | (go_split_ands; exact heldR (Car.later (by assumption) hbl) (b := b1) (ba := b2) (bb := b3) (by simp) (by simp) (by simp) HT1 hn1 HT2 hr1))
          (first | (go_at_call 34; refine (make_any _ pb tb mb c nm L S _ _ _ (by go_split_ands; exact Car.lx (by assumption))).mono ?_; rintro e w' ⟨rfl, hbl⟩) | (go_at_call 25; refine (peek_any _ pb tb mb c nm L S _ _ _ (by go_split_ands; exact Car.lx (by assumption)) hn1).mono ?_; rintro e w' ⟨rfl, q, hwq⟩; have hbl := below_of_drewN hwq; clear hwq) | (go_at_call 24; refine (rawPeek_any _ pb tb mb c nm L S _ _ _ (by go_split_ands; exact Car.lx (by assumption)) hr1).mono ?_; rintro e w' ⟨rfl, q, hwq⟩; have hbl := below_of_drewN hwq; clear hwq))
        obtain ⟨C59, -⟩ := ‹Car w _ pb tb mb c nm L S s.raw s.next s.cur rb (toksCells L) eb en [(b6, 46, #[.int .i64 t4.ty, .string t4.val, .string t4.fn, .int .i64 t4.off, .int .i64 t4.line, .int .i64 t4.col]), (b5, 46, #[.int .i64 t3.ty, .string t3.val, .string t3.fn, .int .i64 t3.off, .int .i64 t3.line, .int .i64 t3.col]), (b4, 49, #[.int .i64 u.raw, .int .i64 u.next, .int .i64 u.cur]), (b3, 46, #[.int .i64 t2.ty, .string t2.val, .string t2.fn, .int .i64 t2.off, .int .i64 t2.line, .int .i64 t2.col]), (b2, 46, #[.int .i64 t1.ty, .string t1.val, .string t1.fn, .int .i64 t1.off, .int .i64 t1.line, .int .i64 t1.col]), (b1, 49, #[.int .i64 s.raw, .int .i64 s.next, .int .i64 s.cur])] ∧ _›
        clear C58
        go_wp2_with fail
        go_ret
        exact ⟨rfl, C59.bel⟩
end fnLoadCheckpointLastWins
end Go.Proofs.Ytomfonilbenhbaa
