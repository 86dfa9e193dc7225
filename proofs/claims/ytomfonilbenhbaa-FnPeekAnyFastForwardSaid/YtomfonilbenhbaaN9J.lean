/-
  The walk of FnLoadCheckpointReplay: after loading a checkpoint the same tokens come once more, and the lexer ends where it had ended. Conditions: none beyond the statement's own.
-/
import Derived.Test.YtomfonilbenhbaaN9A
import Derived.Test.YtomfonilbenhbaaN9I
namespace Go.Proofs.Ytomfonilbenhbaa
open Go.RowKit
set_option linter.unusedSimpArgs false

section
variable {w0 w w' : World} {pb tb mb c nm rb eb en : Nat} {L : List Tok} {S : Int → Bool} {raw next cur : Int} {xs : List Value} {fs : List (Nat × TypeId × Array Value)}
/-- A write into a block that none of the carried things is. -/
theorem Car.far {row : Option Nat} (h : Car w0 w pb tb mb c nm L S raw next cur tb xs mb nm fs) (hg : w.grownBy w' row) (h1 : some pb ≠ row) (h2 : some tb ≠ row) (h3 : some mb ≠ row) (h4 : ∀ x ∈ fs, some x.1 ≠ row)
    (hb : ∀ k, row = some k → w0.heap.size ≤ k) : Car w0 w' pb tb mb c nm L S raw next cur tb xs mb nm fs :=
  ⟨h.lx.grown hg h1 h2 h3, h.row.grown hg h2, h.set.grown hg h3, fun x hx => (h.blks x hx).grown hg (h4 x hx), h.bel.grown hg h.bel.size hb⟩
theorem Car.allocAny {rb : Nat} {eb en : Nat} (h : Car w0 w pb tb mb c nm L S raw next cur rb xs eb en fs) (o : Obj) : Car w0 (w.alloc o) pb tb mb c nm L S raw next cur rb xs eb en fs :=
  ⟨h.lx.alloc _, h.row.alloc _, h.set.alloc _, fun x hx => (h.blks x hx).alloc _, h.bel.alloc h.bel.size _⟩
end
/-- The tokens that j calls of Next give, from the state reached after k. -/
def recs (S : Int → Bool) (L : List Tok) (k j : Nat) : List Tok := (List.range j).map fun s => L.getD ((PL.fresh S (types L)).run S (types L) (k + s)).next eofTok
theorem recs_length (S : Int → Bool) (L : List Tok) (k j : Nat) : (recs S L k j).length = j := by simp [recs]
theorem recs_succ (S : Int → Bool) (L : List Tok) (k j : Nat) : recs S L k (j + 1) = recs S L k j ++ [L.getD ((PL.fresh S (types L)).run S (types L) (k + j)).next eofTok] := by
  simp [recs, List.range_succ]
theorem recs_at (S : Int → Bool) (L : List Tok) (k j s : Nat) (h : s < j) : (recs S L k j).getD s eofTok = L.getD ((PL.fresh S (types L)).run S (types L) (k + s)).next eofTok := by
  simp [recs, List.getD_eq_getElem?_getD, List.getElem?_map, List.getElem?_range h]
theorem heldN {w0 w' : World} {pb tb mb c nm rb eb en n d : Nat} {L R : List Tok} {S : Int → Bool} {raw next cur : Int} {fs : List (Nat × TypeId × Array Value)} {t : Tok}
    (C : Car w0 w' pb tb mb c nm L S raw next cur rb (toksCells R) eb en fs) (HA : Hid (t = L.getD n eofTok)) (hn : n < L.length) (HB : Hid (t = R.getD d eofTok)) (hd : d < R.length) : w'.cell? ⟨rb, d * 6, none⟩ = some (.int .i64 t.ty) ∧ w'.cell? ⟨rb, d * 6 + 1, none⟩ = some (.string t.val) ∧ w'.cell? ⟨rb, d * 6 + 1 + 1, none⟩ = some (.string t.fn) ∧ w'.cell? ⟨rb, d * 6 + 1 + 1 + 1, none⟩ = some (.int .i64 t.off) ∧ w'.cell? ⟨rb, d * 6 + 1 + 1 + 1 + 1, none⟩ = some (.int .i64 t.line) ∧ w'.cell? ⟨rb, d * 6 + 1 + 1 + 1 + 1 + 1, none⟩ = some (.int .i64 t.col) ∧ w'.cell? ⟨tb, n * 6, none⟩ = some (.int .i64 t.ty) ∧ w'.cell? ⟨tb, n * 6 + 1, none⟩ = some (.string t.val) ∧ w'.cell? ⟨tb, n * 6 + 1 + 1, none⟩ = some (.string t.fn) ∧ w'.cell? ⟨tb, n * 6 + 1 + 1 + 1, none⟩ = some (.int .i64 t.off) ∧ w'.cell? ⟨tb, n * 6 + 1 + 1 + 1 + 1, none⟩ = some (.int .i64 t.line) ∧ w'.cell? ⟨tb, n * 6 + 1 + 1 + 1 + 1 + 1, none⟩ = some (.int .i64 t.col) := by
  obtain ⟨a0, a1, a2, a3, a4, a5⟩ := C.lx.tok hn
  rw [← HA.out] at a0 a1 a2 a3 a4 a5
  have hr := C.row
  have e0 := hr.cell ((toksCells_at R d 0 (by omega) hd).trans rfl)
  have e1 := hr.cell ((toksCells_at R d 1 (by omega) hd).trans rfl)
  have e2 := hr.cell ((toksCells_at R d 2 (by omega) hd).trans rfl)
  have e3 := hr.cell ((toksCells_at R d 3 (by omega) hd).trans rfl)
  have e4 := hr.cell ((toksCells_at R d 4 (by omega) hd).trans rfl)
  have e5 := hr.cell ((toksCells_at R d 5 (by omega) hd).trans rfl)
  rw [← HB.out] at e0 e1 e2 e3 e4 e5
  exact ⟨e0, e1, e2, e3, e4, e5, a0, a1, a2, a3, a4, a5⟩
theorem heldE {w0 w' : World} {pb tb mb c nm rb eb en b : Nat} {L : List Tok} {S : Int → Bool} {raw next cur r n q : Int} {xs : List Value} {fs : List (Nat × TypeId × Array Value)}
    (C : Car w0 w' pb tb mb c nm L S raw next cur rb xs eb en fs) (h : (b, 49, #[.int .i64 r, .int .i64 n, .int .i64 q]) ∈ fs) : w'.cell? ⟨b, 0, none⟩ = some (.int .i64 r) ∧ w'.cell? ⟨b, 1, none⟩ = some (.int .i64 n) ∧ w'.cell? ⟨b, 2, none⟩ = some (.int .i64 q) := by
  have k := C.blks _ h
  exact ⟨k.cell 0, k.cell 1, k.cell 2⟩
namespace fnLoadCheckpointReplay
set_option maxHeartbeats 8000000 in
set_option maxRecDepth 100000 in
theorem walk (A0 : Option Addr) (n0 c0 : Nat) (z0 : List Int) (A1 : Option Addr) (n1 c1 : Nat) (z1 : List ByteArray) (A2 : Option Addr) (n2 c2 : Nat) (z2 : List Int) (k : Int) (j : Int) (w : World)
    (ht : Ints .i64 w A0 n0 z0) (hv : Strs w A1 n1 z1) (he : Ints .i64 w A2 n2 z2) (_ : (Lit.int .i64 k).wf = true) (_ : (Lit.int .i64 j).wf = true) :
    Calls Try.prog 8 #[.slice A0 n0 c0, .slice A1 n1 c1, .slice A2 n2 c2, .int .i64 k, .int .i64 j] w fun e w' => e = .returned (.bool true) ∧ Below w.heap.size w w' := by
  have hm0 := ht.2.1
  have hm1 := hv.2.1
  have hm2 := he.2.1
  have HT := Lib.hid ht; clear ht
  have HV := Lib.hid hv; clear hv
  have HE := Lib.hid he; clear he
  by_cases hsmall : n0 ≤ 65536 ∧ n1 ≤ 65536 ∧ n2 ≤ 65536 ∧ 0 ≤ k ∧ k ≤ 65536 ∧ 0 ≤ j ∧ j ≤ 65536
  case neg =>
    go_enter Try.func8, Try.ntmps8
    go_wp2_with fail
    refine (zzLoadCheckpointReplay A0 n0 c0 A1 n1 c1 z1 A2 n2 c2 k j _ HV.out hm0 hm2).mono ?_
    rintro e w1 ⟨b, rfl, rfl⟩
    unfold maxLen at hm0 hm1 hm2
    cases b
    · go_wp2_with fail
      go_ret
      exact ⟨rfl, Below.refl _ _⟩
    · by_cases hs3 : n0 ≤ 65536 ∧ n1 ≤ 65536 ∧ n2 ≤ 65536
      · obtain ⟨hs0, hs1, hs2⟩ := hs3
        go_wp2_with fail
        refine (bytesOK_any A0 n0 c0 A1 n1 c1 z1 A2 n2 c2 _ HV.out hs0 hs1 hs2).mono ?_
        rintro e w1 ⟨b, rfl, rfl⟩
        cases b
        · go_wp2_with fail
          go_ret
          exact ⟨rfl, Below.refl _ _⟩
        · go_wp2_with fail
          all_goals first | (exfalso; omega) | (go_ret; exact ⟨rfl, Below.refl _ _⟩)
      · go_wp2_with fail
        all_goals first | (exfalso; omega) | (go_ret; exact ⟨rfl, Below.refl _ _⟩)
  case pos =>
    obtain ⟨hs0, hs1, hs2, hk0, hk1, hk2, hk3⟩ := hsmall
    have hF : PL.First (types (b6Toks z0 z1)) ((b6Toks z0 z1).length - 1) := b6Go_first z1 z0 0
    have hw := b6Go_wf z1 z0 0 HT.out.2.2.1
    have hlen : 0 < (b6Toks z0 z1).length ∧ (b6Toks z0 z1).length ≤ z0.length + 1 := b6Go_length z1 z0 0
    rw [HT.out.1] at hlen
    obtain ⟨hle0, hle1⟩ := hlen
    have HW : Hid (∀ t ∈ b6Toks z0 z1, (Lit.int .i64 t.ty).wf = true) := hw; clear hw
    have htoks := fun W hb => toks_any A0 n0 c0 z0 A1 n1 c1 z1 W (HT.out.later hb) (HV.out.later hb) hs0 hs1
    have helide := fun W hb => elide_any A2 n2 c2 z2 W (HE.out.later hb) hs2
    have hfresh := fun W hb => fresh_any A0 n0 c0 z0 A1 n1 c1 z1 A2 n2 c2 z2 k W (HT.out.later hb) (HV.out.later hb) (HE.out.later hb) hs0 hs1 hs2 (by omega) (by omega)
    generalize b6Toks z0 z1 = L at *
    generalize inS z2 = S at *
    have hI := PL.inv_run (S := S) hF (k).toNat
    obtain ⟨s, hs⟩ : ∃ s, s = (PL.fresh S (types L)).run S (types L) (k).toNat := ⟨_, rfl⟩
    simp only [← hs] at hfresh hI
    have HSD := Lib.hid hs; clear hs
    have HF := Lib.hid hF; clear hF
    have HI := Lib.hid hI; clear hI
    have HTK := Lib.hid htoks; clear htoks
    have HEL := Lib.hid helide; clear helide
    have HFR := Lib.hid hfresh; clear hfresh
    go_enter Try.func8, Try.ntmps8
    go_wp2_with fail
    refine (zzLoadCheckpointReplay A0 n0 c0 A1 n1 c1 z1 A2 n2 c2 k j _ HV.out hm0 hm2).mono ?_
    rintro e w1 ⟨b, rfl, rfl⟩
    unfold maxLen at hm0 hm1 hm2
    cases b
    · go_wp2_with fail
      go_ret
      exact ⟨rfl, Below.refl _ _⟩
    go_wp2_with fail
    refine (bytesOK_any A0 n0 c0 A1 n1 c1 z1 A2 n2 c2 _ HV.out hs0 hs1 hs2).mono ?_
    rintro e w1 ⟨b, rfl, rfl⟩
    cases b
    · go_wp2_with fail
      go_ret
      exact ⟨rfl, Below.refl _ _⟩
    go_wp2_with fail
    refine (HFR.out _ (Below.refl _ _)).mono ?_
    rintro e w3 ⟨pb, tb, mb, c, nm, rfl, hpw, htb, hmb, hx, hb3⟩
    clear htb hmb
    have C0 : Car w w3 pb tb mb c nm L S s.raw s.next s.cur tb (toksCells L) mb nm [] := ⟨hx, hx.row, hx.set, Blks.nil _, hb3⟩
    clear hx hb3
    have hn1 : s.next < L.length := by have := HI.out.le; omega
    have hr1 : s.raw < L.length := by have := HI.out.raw; omega
    obtain ⟨t1, ht1⟩ : ∃ t, t = L.getD s.next eofTok := ⟨_, rfl⟩
    obtain ⟨t2, ht2⟩ : ∃ t, t = L.getD s.raw eofTok := ⟨_, rfl⟩
    have HT1 := Lib.hid ht1; clear ht1
    have HT2 := Lib.hid ht2; clear ht2
    go_wp2_with fail
    refine (make_any _ pb tb mb c nm L S _ _ _ C0.lx).mono ?_
    rintro e w1 ⟨rfl, hb2⟩
    have C3 : Car w w1 pb tb mb c nm L S s.raw s.next s.cur tb (toksCells L) mb nm [] := C0.later hb2
    clear C0 hb2
    go_wp2_with fail
    have C4 := C3.alloc #[.int .i64 s.raw, .int .i64 s.next, .int .i64 s.cur] 49
    obtain ⟨b1, eb1⟩ : ∃ b, b = w1.heap.size := ⟨_, rfl⟩
    obtain ⟨W5, eW5⟩ : ∃ W, W = w1.alloc (.cells #[.int .i64 s.raw, .int .i64 s.next, .int .i64 s.cur] 49) := ⟨_, rfl⟩
    rw [← eb1] at C4 ⊢
    rw [← eW5] at C4 ⊢
    clear C3 eb1 eW5
    refine (peek_any _ pb tb mb c nm L S _ _ s.next C4.lx hn1).mono ?_
    rintro e w6 ⟨rfl, q7, hw8⟩
    have C9 : Car w w6 pb tb mb c nm L S s.raw s.next s.cur tb (toksCells L) mb nm [(b1, 49, #[.int .i64 s.raw, .int .i64 s.next, .int .i64 s.cur])] := by rw [hw8]; exact C4.drewN q7
    clear C4 hw8
    obtain ⟨-, -, p0, p1, p2, p3, p4, y0, y1, y2, y3, y4, y5, -⟩ := C9.lx.held (World.grownBy.refl _ _) HT1 hn1
    go_wp2_with fail
    clear p0 p1 p2 p3 p4 y0 y1 y2 y3 y4 y5
    have C10 := C9.alloc #[.int .i64 t1.ty, .string t1.val, .string t1.fn, .int .i64 t1.off, .int .i64 t1.line, .int .i64 t1.col] 46
    obtain ⟨b2, eb2⟩ : ∃ b, b = w6.heap.size := ⟨_, rfl⟩
    obtain ⟨W11, eW11⟩ : ∃ W, W = w6.alloc (.cells #[.int .i64 t1.ty, .string t1.val, .string t1.fn, .int .i64 t1.off, .int .i64 t1.line, .int .i64 t1.col] 46) := ⟨_, rfl⟩
    rw [← eb2] at C10 ⊢
    rw [← eW11] at C10 ⊢
    clear C9 eb2 eW11
    refine (rawPeek_any _ pb tb mb c nm L S _ _ s.raw C10.lx hr1).mono ?_
    rintro e wQ ⟨rfl, qQ, hwQ⟩
    have C12 : Car w wQ pb tb mb c nm L S s.raw s.next s.cur tb (toksCells L) mb nm [(b2, 46, #[.int .i64 t1.ty, .string t1.val, .string t1.fn, .int .i64 t1.off, .int .i64 t1.line, .int .i64 t1.col]), (b1, 49, #[.int .i64 s.raw, .int .i64 s.next, .int .i64 s.cur])] := by rw [hwQ]; exact C10.drewN qQ
    clear C10 hwQ
    obtain ⟨-, -, p0, p1, p2, p3, p4, y0, y1, y2, y3, y4, y5, -⟩ := C12.lx.held (World.grownBy.refl _ _) HT2 hr1
    obtain ⟨i0, hi, hz0, hz1, hz2⟩ := info_parts tokInfo
    have C13 := C12.alloc #[.int .i64 t2.ty, .string t2.val, .string t2.fn, .int .i64 t2.off, .int .i64 t2.line, .int .i64 t2.col] 46
    have hjj : j = (j.toNat : Int) := by omega
    have hjn : j.toNat ≤ 65536 := by omega
    have HJJ := Lib.hid hjj; clear hjj
    go_wp2_with (at_make; refine wpList_make_own _ rfl _ _ 27 rfl 0 46 i0 _ 6 Try.underlying27 hi hz0 hz1 _ _ _ j.toNat rfl rfl HJJ.out (by rw [hz2]; omega) (by unfold maxLen; omega) (Nat.zero_le _) ?_; intro w1 hown1 hg1)
    have lt0 := C13.lx.blk.lt
    have lt1 := C13.lx.row.lt
    have lt2 := C13.lx.set.lt
    have lt3 : ∀ x ∈ ([(wQ.heap.size, 46, #[.int .i64 t2.ty, .string t2.val, .string t2.fn, .int .i64 t2.off, .int .i64 t2.line, .int .i64 t2.col]), (b2, 46, #[.int .i64 t1.ty, .string t1.val, .string t1.fn, .int .i64 t1.off, .int .i64 t1.line, .int .i64 t1.col]), (b1, 49, #[.int .i64 s.raw, .int .i64 s.next, .int .i64 s.cur])] : List (Nat × TypeId × Array Value)), x.1 < _ := fun x hx => (C13.blks x hx).lt
    have C14 := C13.far hg1 (by simp) (by simp) (by simp) (fun _ _ => by simp) (fun k hk => by cases hk)
    have hsz : (wQ.alloc (.cells #[.int .i64 t2.ty, .string t2.val, .string t2.fn, .int .i64 t2.off, .int .i64 t2.line, .int .i64 t2.col] 46)).heap.size = wQ.heap.size + 1 := by simp
    rw [hsz] at lt0 lt1 lt2 lt3 hown1
    have lt4 : w.heap.size ≤ wQ.heap.size + 1 := by omega
    obtain ⟨rb, erb⟩ : ∃ b, b = wQ.heap.size + 1 := ⟨_, rfl⟩
    rw [← erb] at lt0 lt1 lt2 lt3 lt4 hown1 ⊢
    obtain ⟨b3, eb3⟩ : ∃ b, b = wQ.heap.size := ⟨_, rfl⟩
    rw [← eb3] at C14 lt3 ⊢
    clear eb3 erb hg1 hsz p0 p1 p2 p3 p4 y0 y1 y2 y3 y4 y5
    have LT3 := Lib.hid lt3; clear lt3
    have HZ1 := Lib.hid hz1
    clear hz0 hz2
    go_loopg [15, 16] j.toNat (fun q a b wr => ∃ i : Nat, q = j.toNat - i ∧ i ≤ j.toNat ∧ a = .slice (some ⟨rb, 0, none⟩) i j.toNat ∧ b = .int .i64 i ∧ Car w wr pb tb mb c nm L S ((PL.fresh S (types L)).run S (types L) (k.toNat + i)).raw ((PL.fresh S (types L)).run S (types L) (k.toNat + i)).next ((PL.fresh S (types L)).run S (types L) (k.toNat + i)).cur tb (toksCells L) mb nm [(b3, 46, #[.int .i64 t2.ty, .string t2.val, .string t2.fn, .int .i64 t2.off, .int .i64 t2.line, .int .i64 t2.col]), (b2, 46, #[.int .i64 t1.ty, .string t1.val, .string t1.fn, .int .i64 t1.off, .int .i64 t1.line, .int .i64 t1.col]), (b1, 49, #[.int .i64 s.raw, .int .i64 s.next, .int .i64 s.cur])] ∧ wr.ownsRow 0 46 6 (.slice (some ⟨rb, 0, none⟩) i j.toNat) i (toksCells (recs S L k.toNat i)))
    case atStart => exact ⟨0, rfl, Nat.zero_le _, rfl, rfl, by rw [Nat.add_zero, ← HSD.out]; exact C14, hown1⟩
    case round =>
      obtain ⟨i, hq, hij, rfl, rfl, Ci, hown⟩ := hrel
      have KK := Lib.hid hq; clear hq
      clear C14 hown1
      by_cases hlt : i < j.toNat
      case pos =>
        have hjk : (i : Int) < j := by omega
        have hIj := PL.inv_run (S := S) HF.out (k.toNat + i)
        have hstep : (PL.fresh S (types L)).run S (types L) (k.toNat + (i + 1)) = ((PL.fresh S (types L)).run S (types L) (k.toNat + i)).step S (types L) := rfl
        have hrec := recs_succ S L k.toNat i
        generalize ((PL.fresh S (types L)).run S (types L) (k.toNat + i)) = sj at *
        have HJ := Lib.hid hIj; clear hIj
        have HST := Lib.hid hstep; clear hstep
        have HRC := Lib.hid hrec; clear hrec
        have hn2 : sj.next < L.length := by have := HJ.out.le; omega
        obtain ⟨t3, ht3⟩ : ∃ t, t = L.getD sj.next eofTok := ⟨_, rfl⟩
        have HT3 := Lib.hid ht3; clear ht3
        go_wp2_with fail
        refine (next_any _ pb tb mb c nm L S sj Ci.lx (L.length - 1) HF.out (by omega) HJ.out.le (by have := HJ.out.most; omega)).mono ?_
        rintro e w9 ⟨rfl, hg9, hx9⟩
        have C9 := Ci.grow hg9 hx9 (by simp) hpw
        have hown9 := hown.kept hg9 (.inr (by simp [Value.ownBlock]; omega))
        clear Ci hg9 hx9 hown
        obtain ⟨y0, y1, y2, y3, y4, y5⟩ := C9.lx.tok hn2
        rw [← HT3.out] at y0 y1 y2 y3 y4 y5
        generalize hRR : toksCells (recs S L k.toNat i) = RR at *
        have HRR := Lib.hid hRR; clear hRR
        go_wp2_with (at_builtin; refine wpList_append_fits _ rfl _ _ 27 rfl 0 46 i0 6 Try.underlying27 hi HZ1.out rb i j.toNat RR rfl (hown9.alloc _) ⟨w9.heap.size, 0, none⟩ 1 1 (Tok.cells t3) rfl rfl ?_ ?_ (by omega) ?_; (exact World.news_of_block (heap_alloc_new _ _)); (exact cells_one t3); intro w2 hown2 hg2; have C10 := (C9.allocAny _).far hg2 (by simp; omega) (by simp; omega) (by simp; omega) (fun x hx => by have := LT3.out x hx; simp; omega) (fun k hk => by injection hk with hk; omega); clear hg2 C9 hown9)
        go_roundg (j.toNat - (i + 1))
        case measure => rw [KK.out]; omega
        case rel => exact ⟨i + 1, rfl, by omega, rfl, by go_num, by rw [HST.out]; exact C10, by rw [HRC.out, toksCells_snoc, ← HT3.out, HRR.out]; exact hown2⟩
      case neg =>
        have hjk : ¬ (i : Int) < j := by omega
        have hje : i = j.toNat := by omega
        have HJE := Lib.hid hje; clear hje
        have hrow := Row.of_own hown
        have D0 : Car w wr pb tb mb c nm L S ((PL.fresh S (types L)).run S (types L) (k.toNat + i)).raw ((PL.fresh S (types L)).run S (types L) (k.toNat + i)).next ((PL.fresh S (types L)).run S (types L) (k.toNat + i)).cur rb (toksCells (recs S L k.toNat j.toNat)) mb nm [(b3, 46, #[.int .i64 t2.ty, .string t2.val, .string t2.fn, .int .i64 t2.off, .int .i64 t2.line, .int .i64 t2.col]), (b2, 46, #[.int .i64 t1.ty, .string t1.val, .string t1.fn, .int .i64 t1.off, .int .i64 t1.line, .int .i64 t1.col]), (b1, 49, #[.int .i64 s.raw, .int .i64 s.next, .int .i64 s.cur])] := ⟨Ci.lx, by rw [← HJE.out]; exact hrow, Ci.set, Ci.blks, Ci.bel⟩
        clear Ci hown hrow
        obtain ⟨u, hu⟩ : ∃ u, u = ((PL.fresh S (types L)).run S (types L) (k.toNat + i)) := ⟨_, rfl⟩
        simp only [← hu] at D0
        rw [HJE.out] at hu
        have HU := Lib.hid hu; clear hu
        go_wp2_with fail
        refine (make_any _ pb tb mb c nm L S _ _ _ D0.lx).mono ?_
        rintro e w15 ⟨rfl, hb16⟩
        have C17 : Car w w15 pb tb mb c nm L S u.raw u.next u.cur rb (toksCells (recs S L k.toNat j.toNat)) mb nm [(b3, 46, #[.int .i64 t2.ty, .string t2.val, .string t2.fn, .int .i64 t2.off, .int .i64 t2.line, .int .i64 t2.col]), (b2, 46, #[.int .i64 t1.ty, .string t1.val, .string t1.fn, .int .i64 t1.off, .int .i64 t1.line, .int .i64 t1.col]), (b1, 49, #[.int .i64 s.raw, .int .i64 s.next, .int .i64 s.cur])] := D0.later hb16
        clear D0 hb16
        have kk := C17.blks (b1, 49, #[.int .i64 s.raw, .int .i64 s.next, .int .i64 s.cur]) (by simp)
        have l0 := kk.cell 0
        have l1 := kk.cell 1
        have l2 := kk.cell 2
        simp at l0 l1 l2
        clear kk
        have ll := (C17.blks (b1, 49, #[.int .i64 s.raw, .int .i64 s.next, .int .i64 s.cur]) (by simp)).lt
        go_wp2_with fail
        clear l0 l1 l2 ll
        have C18 := C17.alloc #[.int .i64 u.raw, .int .i64 u.next, .int .i64 u.cur] 49
        obtain ⟨b4, eb4⟩ : ∃ b, b = w15.heap.size := ⟨_, rfl⟩
        obtain ⟨W19, eW19⟩ : ∃ W, W = w15.alloc (.cells #[.int .i64 u.raw, .int .i64 u.next, .int .i64 u.cur] 49) := ⟨_, rfl⟩
        rw [← eb4] at C18 ⊢
        rw [← eW19] at C18 ⊢
        clear C17 eb4 eW19
        refine (load_any _ pb tb mb c nm L S _ _ _ _ _ _ C18.lx).mono ?_
        rintro e w20 ⟨rfl, hg21, hx22⟩
        have C23 : Car w w20 pb tb mb c nm L S s.raw s.next s.cur rb (toksCells (recs S L k.toNat j.toNat)) mb nm [(b4, 49, #[.int .i64 u.raw, .int .i64 u.next, .int .i64 u.cur]), (b3, 46, #[.int .i64 t2.ty, .string t2.val, .string t2.fn, .int .i64 t2.off, .int .i64 t2.line, .int .i64 t2.col]), (b2, 46, #[.int .i64 t1.ty, .string t1.val, .string t1.fn, .int .i64 t1.off, .int .i64 t1.line, .int .i64 t1.col]), (b1, 49, #[.int .i64 s.raw, .int .i64 s.next, .int .i64 s.cur])] := C18.grow hg21 hx22 (by simp) hpw
        clear C18 hg21 hx22
        go_wp2_with fail
        go_region_held3 (fun w' => Car w w' pb tb mb c nm L S s.raw s.next s.cur rb (toksCells (recs S L k.toNat j.toNat)) mb nm [(b4, 49, #[.int .i64 u.raw, .int .i64 u.next, .int .i64 u.cur]), (b3, 46, #[.int .i64 t2.ty, .string t2.val, .string t2.fn, .int .i64 t2.off, .int .i64 t2.line, .int .i64 t2.col]), (b2, 46, #[.int .i64 t1.ty, .string t1.val, .string t1.fn, .int .i64 t1.off, .int .i64 t1.line, .int .i64 t1.col]), (b1, 49, #[.int .i64 s.raw, .int .i64 s.next, .int .i64 s.cur])] ∧ w'.cell? ⟨b1, 0, none⟩ = some (.int .i64 s.raw) ∧ w'.cell? ⟨b1, 1, none⟩ = some (.int .i64 s.next) ∧ w'.cell? ⟨b1, 2, none⟩ = some (.int .i64 s.cur) ∧ w'.cell? ⟨b2, 0, none⟩ = some (.int .i64 t1.ty) ∧ w'.cell? ⟨b2, 1, none⟩ = some (.string t1.val) ∧ w'.cell? ⟨b2, 2, none⟩ = some (.string t1.fn) ∧ w'.cell? ⟨b2, 3, none⟩ = some (.int .i64 t1.off) ∧ w'.cell? ⟨b2, 4, none⟩ = some (.int .i64 t1.line) ∧ w'.cell? ⟨b2, 5, none⟩ = some (.int .i64 t1.col) ∧ w'.cell? ⟨b3, 0, none⟩ = some (.int .i64 t2.ty) ∧ w'.cell? ⟨b3, 1, none⟩ = some (.string t2.val) ∧ w'.cell? ⟨b3, 2, none⟩ = some (.string t2.fn) ∧ w'.cell? ⟨b3, 3, none⟩ = some (.int .i64 t2.off) ∧ w'.cell? ⟨b3, 4, none⟩ = some (.int .i64 t2.line) ∧ w'.cell? ⟨b3, 5, none⟩ = some (.int .i64 t2.col) ∧ w'.cell? ⟨tb, s.next * 6, none⟩ = some (.int .i64 t1.ty) ∧ w'.cell? ⟨tb, s.next * 6 + 1, none⟩ = some (.string t1.val) ∧ w'.cell? ⟨tb, s.next * 6 + 1 + 1, none⟩ = some (.string t1.fn) ∧ w'.cell? ⟨tb, s.next * 6 + 1 + 1 + 1, none⟩ = some (.int .i64 t1.off) ∧ w'.cell? ⟨tb, s.next * 6 + 1 + 1 + 1 + 1, none⟩ = some (.int .i64 t1.line) ∧ w'.cell? ⟨tb, s.next * 6 + 1 + 1 + 1 + 1 + 1, none⟩ = some (.int .i64 t1.col) ∧ w'.cell? ⟨tb, s.raw * 6, none⟩ = some (.int .i64 t2.ty) ∧ w'.cell? ⟨tb, s.raw * 6 + 1, none⟩ = some (.string t2.val) ∧ w'.cell? ⟨tb, s.raw * 6 + 1 + 1, none⟩ = some (.string t2.fn) ∧ w'.cell? ⟨tb, s.raw * 6 + 1 + 1 + 1, none⟩ = some (.int .i64 t2.off) ∧ w'.cell? ⟨tb, s.raw * 6 + 1 + 1 + 1 + 1, none⟩ = some (.int .i64 t2.line) ∧ w'.cell? ⟨tb, s.raw * 6 + 1 + 1 + 1 + 1 + 1, none⟩ = some (.int .i64 t2.col))
          (first | assumption | exact heldR C23.drew (b := b1) (ba := b2) (bb := b3) (by simp) (by simp) (by simp) HT1 hn1 HT2 hr1 | (go_split_ands; exact heldR (Car.later (by assumption) hbl) (b := b1) (ba := b2) (bb := b3) (by simp) (by simp) (by simp) HT1 hn1 HT2 hr1))
          (first | (go_at_call 34; refine (make_any _ pb tb mb c nm L S _ _ _ (by go_split_ands; exact Car.lx (by assumption))).mono ?_; rintro e w' ⟨rfl, hbl⟩) | (go_at_call 25; refine (peek_any _ pb tb mb c nm L S _ _ _ (by go_split_ands; exact Car.lx (by assumption)) hn1).mono ?_; rintro e w' ⟨rfl, q, hwq⟩; have hbl := below_of_drewN hwq; clear hwq) | (go_at_call 24; refine (rawPeek_any _ pb tb mb c nm L S _ _ _ (by go_split_ands; exact Car.lx (by assumption)) hr1).mono ?_; rintro e w' ⟨rfl, q, hwq⟩; have hbl := below_of_drewN hwq; clear hwq))
        obtain ⟨C24, -⟩ := ‹Car w _ pb tb mb c nm L S s.raw s.next s.cur rb (toksCells (recs S L k.toNat j.toNat)) mb nm [(b4, 49, #[.int .i64 u.raw, .int .i64 u.next, .int .i64 u.cur]), (b3, 46, #[.int .i64 t2.ty, .string t2.val, .string t2.fn, .int .i64 t2.off, .int .i64 t2.line, .int .i64 t2.col]), (b2, 46, #[.int .i64 t1.ty, .string t1.val, .string t1.fn, .int .i64 t1.off, .int .i64 t1.line, .int .i64 t1.col]), (b1, 49, #[.int .i64 s.raw, .int .i64 s.next, .int .i64 s.cur])] ∧ _›
        clear C23
        go_wp2_with fail
        go_loopg [18] j.toNat (fun q a wr => ∃ d : Nat, q = j.toNat - d ∧ d ≤ j.toNat ∧ a = .int .i64 d ∧ Car w wr pb tb mb c nm L S ((PL.fresh S (types L)).run S (types L) (k.toNat + d)).raw ((PL.fresh S (types L)).run S (types L) (k.toNat + d)).next ((PL.fresh S (types L)).run S (types L) (k.toNat + d)).cur rb (toksCells (recs S L k.toNat j.toNat)) mb nm [(b4, 49, #[.int .i64 u.raw, .int .i64 u.next, .int .i64 u.cur]), (b3, 46, #[.int .i64 t2.ty, .string t2.val, .string t2.fn, .int .i64 t2.off, .int .i64 t2.line, .int .i64 t2.col]), (b2, 46, #[.int .i64 t1.ty, .string t1.val, .string t1.fn, .int .i64 t1.off, .int .i64 t1.line, .int .i64 t1.col]), (b1, 49, #[.int .i64 s.raw, .int .i64 s.next, .int .i64 s.cur])])
        case atStart => exact ⟨0, rfl, Nat.zero_le _, rfl, by rw [Nat.add_zero, ← HSD.out]; exact C24⟩
        case round =>
          obtain ⟨d, hq, hdj, rfl, Cd⟩ := hrel
          have K2 := Lib.hid hq; clear hq
          clear C24
          by_cases hlt2 : d < j.toNat
          case pos =>
            have hdk : (d : Int) < j := by omega
            have hd0 : (0 : Int) ≤ (d : Int) := by omega
            have hd1 : (d : Int) < (i : Int) := by rw [HJE.out]; omega
            have hId := PL.inv_run (S := S) HF.out (k.toNat + d)
            have hstep : (PL.fresh S (types L)).run S (types L) (k.toNat + (d + 1)) = ((PL.fresh S (types L)).run S (types L) (k.toNat + d)).step S (types L) := rfl
            have hrec := recs_at S L k.toNat j.toNat d hlt2
            have hrl : d < (recs S L k.toNat j.toNat).length := by rw [recs_length]; exact hlt2
            generalize ((PL.fresh S (types L)).run S (types L) (k.toNat + d)) = sd at *
            have HD := Lib.hid hId; clear hId
            have HST := Lib.hid hstep; clear hstep
            have hn3 : sd.next < L.length := by have := HD.out.le; omega
            obtain ⟨t4, ht4⟩ : ∃ t, t = L.getD sd.next eofTok := ⟨_, rfl⟩
            rw [← ht4] at hrec
            have HT4 := Lib.hid ht4; clear ht4
            have HRC := Lib.hid hrec.symm; clear hrec
            have HRL := Lib.hid hrl; clear hrl
            go_wp2_with fail
            go_region_held3 (fun w' => w'.cell? ⟨rb, d * 6, none⟩ = some (.int .i64 t4.ty) ∧ w'.cell? ⟨rb, d * 6 + 1, none⟩ = some (.string t4.val) ∧ w'.cell? ⟨rb, d * 6 + 1 + 1, none⟩ = some (.string t4.fn) ∧ w'.cell? ⟨rb, d * 6 + 1 + 1 + 1, none⟩ = some (.int .i64 t4.off) ∧ w'.cell? ⟨rb, d * 6 + 1 + 1 + 1 + 1, none⟩ = some (.int .i64 t4.line) ∧ w'.cell? ⟨rb, d * 6 + 1 + 1 + 1 + 1 + 1, none⟩ = some (.int .i64 t4.col) ∧ w'.cell? ⟨tb, sd.next * 6, none⟩ = some (.int .i64 t4.ty) ∧ w'.cell? ⟨tb, sd.next * 6 + 1, none⟩ = some (.string t4.val) ∧ w'.cell? ⟨tb, sd.next * 6 + 1 + 1, none⟩ = some (.string t4.fn) ∧ w'.cell? ⟨tb, sd.next * 6 + 1 + 1 + 1, none⟩ = some (.int .i64 t4.off) ∧ w'.cell? ⟨tb, sd.next * 6 + 1 + 1 + 1 + 1, none⟩ = some (.int .i64 t4.line) ∧ w'.cell? ⟨tb, sd.next * 6 + 1 + 1 + 1 + 1 + 1, none⟩ = some (.int .i64 t4.col))
              (first | assumption | exact heldN Cd.drew HT4 hn3 HRC HRL.out | exact heldN C9 HT4 hn3 HRC HRL.out)
              (first | (go_at_call 35; refine (next_any _ pb tb mb c nm L S sd Cd.drew.lx (L.length - 1) HF.out (by omega) HD.out.le (by have := HD.out.most; omega)).mono ?_; rintro e w9 ⟨rfl, hg9, hx9⟩; have C9 := Cd.drew.grow hg9 hx9 (by simp) hpw; clear hg9 hx9))
            go_wp2_with fail
            go_roundg (j.toNat - (d + 1))
            case measure => rw [K2.out]; omega
            case rel => exact ⟨d + 1, rfl, by omega, by go_num, by rw [HST.out]; exact C9⟩
          case neg =>
            have hdk : ¬ (d : Int) < j := by omega
            have hde : d = j.toNat := by omega
            have hrd : ((PL.fresh S (types L)).run S (types L) (k.toNat + d)) = u := by rw [HU.out, hde]
            rw [hrd] at Cd
            clear hrd hde
            go_wp2_with fail
            go_region_held3 (fun w' => w'.cell? ⟨b4, 0, none⟩ = some (.int .i64 u.raw) ∧ w'.cell? ⟨b4, 1, none⟩ = some (.int .i64 u.next) ∧ w'.cell? ⟨b4, 2, none⟩ = some (.int .i64 u.cur))
              (first | assumption | exact heldE Cd.drew (by simp) | exact heldE C8 (by simp))
              (first | (go_at_call 34; refine (make_any _ pb tb mb c nm L S _ _ _ Cd.drew.lx).mono ?_; rintro e w8 ⟨rfl, hb8⟩; have C8 := Cd.drew.later hb8; clear hb8))
            go_wp2_with fail
            go_ret
            exact ⟨rfl, C8.bel⟩

end fnLoadCheckpointReplay
end Go.Proofs.Ytomfonilbenhbaa
