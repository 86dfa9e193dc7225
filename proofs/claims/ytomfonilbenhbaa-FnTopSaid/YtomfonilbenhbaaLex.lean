/-
  Contracts of the peeking lexer's methods over this seat's translation: what each returns and what it leaves of the cursors. Conditions: the lexer's memory is as 'Lx' says.
-/
import Derived.Test.YtomfonilbenhbaaRows
import Derived.Test.YtomfonilbenhbaaKit
import Derived.Test.YtomfonilbenhbaaModel
import Derived.WalkKit
import Derived.WalkSpells
import Derived.WalkLawsBesides
import Derived.Outline
import Derived.Deep.RegionHeld3
import Derived.Deep.QuietTactic
import Derived.BigQuiet
import Derived.Deep.LoopGhost
import Derived.Deep.RegionWith
namespace Go.Proofs.Ytomfonilbenhbaa
open Go.RowKit
set_option linter.unusedSimpArgs false

structure Tok where
  ty : Int
  val : ByteArray
  fn : ByteArray
  off : Int
  line : Int
  col : Int
def Tok.cells (t : Tok) : List Value := [.int .i64 t.ty, .string t.val, .string t.fn, .int .i64 t.off, .int .i64 t.line, .int .i64 t.col]
def Tok.agg (t : Tok) : Value := .agg #[.int .i64 t.ty, .string t.val, .string t.fn, .int .i64 t.off, .int .i64 t.line, .int .i64 t.col]
def toksCells (l : List Tok) : List Value := l.flatMap Tok.cells
def types (l : List Tok) : List Int := l.map Tok.ty
def eofTok : Tok := ⟨-1, ByteArray.empty, ByteArray.empty, 0, 0, 0⟩

theorem toksCells_length (l : List Tok) : (toksCells l).length = l.length * 6 := by
  induction l with
  | nil => rfl
  | cons t r ih => simp [toksCells, Tok.cells] at ih ⊢; omega
theorem toksCells_at (l : List Tok) (i j : Nat) (hj : j < 6) (hi : i < l.length) : (toksCells l)[i * 6 + j]? = (l.getD i eofTok).cells[j]? := by
  induction l generalizing i with
  | nil => simp at hi
  | cons t r ih =>
    cases i with
    | zero =>
      show (t.cells ++ toksCells r)[0 * 6 + j]? = _
      rw [Nat.zero_mul, Nat.zero_add, List.getElem?_append_left (by simp [Tok.cells]; exact hj)]; rfl
    | succ i =>
      show (t.cells ++ toksCells r)[(i + 1) * 6 + j]? = _
      rw [List.getElem?_append_right (by simp [Tok.cells]; omega)]
      have e : (i + 1) * 6 + j - t.cells.length = i * 6 + j := by simp [Tok.cells]; omega
      rw [e, ih i (by simpa using hi)]
      simp
theorem at_types (l : List Tok) (i : Nat) : PL.at_ (types l) i = (l.getD i eofTok).ty := by
  unfold PL.at_ types
  simp only [List.getD_eq_getElem?_getD, List.getElem?_map]
  cases l[i]? <;> rfl
theorem types_length (l : List Tok) : (types l).length = l.length := by simp [types]

/-- The world holds a lexer at block pb over the tokens L (their row: block tb) and the elided set S (its map: block mb). -/
structure Lx (w : World) (pb tb mb c nm : Nat) (L : List Tok) (S : Int → Bool) (raw next cur : Int) : Prop where
  blk : Blk w pb 52 #[.int .i64 raw, .int .i64 next, .int .i64 cur, .slice (some ⟨tb, 0, none⟩) L.length c, .map (some mb)]
  row : Row w tb 46 (toksCells L)
  set : BSet Try.prog 42 4 w mb nm S
  wf : ∀ t ∈ L, (Lit.int .i64 t.ty).wf = true
  len : L.length ≤ 4611686018427387904

section
variable {w w' : World} {pb tb mb c nm : Nat} {L : List Tok} {S : Int → Bool} {raw next cur : Int}
theorem Lx.pb_tb (h : Lx w pb tb mb c nm L S raw next cur) : tb ≠ pb := h.row.ne_blk h.blk (by decide)
theorem Lx.mb_pb (h : Lx w pb tb mb c nm L S raw next cur) : mb ≠ pb := h.set.ne_blk h.blk
theorem Lx.drewN (h : Lx w pb tb mb c nm L S raw next cur) (n : Nat) : Lx (w.drewN n) pb tb mb c nm L S raw next cur := ⟨h.blk, h.row, h.set, h.wf, h.len⟩
theorem Lx.drew (h : Lx w pb tb mb c nm L S raw next cur) : Lx w.drew pb tb mb c nm L S raw next cur := ⟨h.blk, h.row, h.set, h.wf, h.len⟩
theorem Lx.alloc (h : Lx w pb tb mb c nm L S raw next cur) (o : Obj) : Lx (w.alloc o) pb tb mb c nm L S raw next cur := ⟨h.blk.alloc o, h.row.alloc o, h.set.alloc o, h.wf, h.len⟩
theorem Lx.later (h : Lx w pb tb mb c nm L S raw next cur) (hb : Below w.heap.size w w') : Lx w' pb tb mb c nm L S raw next cur := ⟨h.blk.later hb, h.row.later hb, h.set.later hb, h.wf, h.len⟩
theorem Lx.grown {row : Option Nat} (h : Lx w pb tb mb c nm L S raw next cur) (hb : w.grownBy w' row) (h1 : some pb ≠ row) (h2 : some tb ≠ row) (h3 : some mb ≠ row) : Lx w' pb tb mb c nm L S raw next cur :=
  ⟨h.blk.grown hb h1, h.row.grown hb h2, h.set.grown hb h3, h.wf, h.len⟩
theorem Lx.lt (h : Lx w pb tb mb c nm L S raw next cur) : pb < w.heap.size := h.blk.lt
theorem Lx.setRaw (h : Lx w pb tb mb c nm L S raw next cur) (x : Int) : Lx (w.setCell ⟨pb, 0, none⟩ (.int .i64 x)) pb tb mb c nm L S x next cur :=
  ⟨h.blk.set 0 _, h.row.far (p := ⟨pb, 0, none⟩) h.pb_tb _, h.set.far (p := ⟨pb, 0, none⟩) h.mb_pb _, h.wf, h.len⟩
theorem Lx.setNext (h : Lx w pb tb mb c nm L S raw next cur) (x : Int) : Lx (w.setCell ⟨pb, 1, none⟩ (.int .i64 x)) pb tb mb c nm L S raw x cur :=
  ⟨h.blk.set 1 _, h.row.far (p := ⟨pb, 1, none⟩) h.pb_tb _, h.set.far (p := ⟨pb, 1, none⟩) h.mb_pb _, h.wf, h.len⟩
theorem Lx.setCur (h : Lx w pb tb mb c nm L S raw next cur) (x : Int) : Lx (w.setCell ⟨pb, 2, none⟩ (.int .i64 x)) pb tb mb c nm L S raw next x :=
  ⟨h.blk.set 2 _, h.row.far (p := ⟨pb, 2, none⟩) h.pb_tb _, h.set.far (p := ⟨pb, 2, none⟩) h.mb_pb _, h.wf, h.len⟩
/-- The five cells of the lexer. -/
theorem Lx.cells (h : Lx w pb tb mb c nm L S raw next cur) : w.cell? ⟨pb, 0, none⟩ = some (.int .i64 raw) ∧ w.cell? ⟨pb, 1, none⟩ = some (.int .i64 next) ∧ w.cell? ⟨pb, 2, none⟩ = some (.int .i64 cur) ∧
    w.cell? ⟨pb, 3, none⟩ = some (.slice (some ⟨tb, 0, none⟩) L.length c) ∧ w.cell? ⟨pb, 4, none⟩ = some (.map (some mb)) :=
  ⟨h.blk.cell 0, h.blk.cell 1, h.blk.cell 2, h.blk.cell 3, h.blk.cell 4⟩
/-- The six cells of token i. -/
theorem Lx.tok (h : Lx w pb tb mb c nm L S raw next cur) {i : Nat} (hi : i < L.length) : w.cell? ⟨tb, i * 6, none⟩ = some (.int .i64 (L.getD i eofTok).ty) ∧ w.cell? ⟨tb, i * 6 + 1, none⟩ = some (.string (L.getD i eofTok).val) ∧
    w.cell? ⟨tb, i * 6 + 2, none⟩ = some (.string (L.getD i eofTok).fn) ∧ w.cell? ⟨tb, i * 6 + 3, none⟩ = some (.int .i64 (L.getD i eofTok).off) ∧ w.cell? ⟨tb, i * 6 + 4, none⟩ = some (.int .i64 (L.getD i eofTok).line) ∧
    w.cell? ⟨tb, i * 6 + 5, none⟩ = some (.int .i64 (L.getD i eofTok).col) :=
  ⟨h.row.cell ((toksCells_at L i 0 (by omega) hi).trans rfl), h.row.cell ((toksCells_at L i 1 (by omega) hi).trans rfl), h.row.cell ((toksCells_at L i 2 (by omega) hi).trans rfl),
   h.row.cell ((toksCells_at L i 3 (by omega) hi).trans rfl), h.row.cell ((toksCells_at L i 4 (by omega) hi).trans rfl), h.row.cell ((toksCells_at L i 5 (by omega) hi).trans rfl)⟩
theorem zeroBool (w : World) : (zeroValue 4).run Try.prog w = .ok (.bool false) w := by kernel_rfl
theorem Lx.looks (h : Lx w pb tb mb c nm L S raw next cur) {i : Nat} (hi : i < L.length) :
    (Instr.lookup 50 (.map (some mb)) (.int .i64 (L.getD i eofTok).ty) false).run Try.prog w = .ok (.bool (S (L.getD i eofTok).ty)) w :=
  h.set.run Try.underlying42 Try.underlying4 Try.underlying50 (zeroBool w) (h.wf _ (by rw [List.getD_eq_getElem?_getD, List.getElem?_eq_getElem hi]; simp))
theorem Lx.looksN (h : Lx w pb tb mb c nm L S raw next cur) {i : Nat} {t : Tok} (ht : Hid (t = L.getD i eofTok)) (hi : i < L.length) :
    ∀ n, (Instr.lookup 50 (.map (some mb)) (.int .i64 t.ty) false).run Try.prog (w.drewN n) = .ok (.bool (S t.ty)) (w.drewN n) := fun n => by rw [ht.out]; exact (h.drewN n).looks hi
/-- All that a walk loads of the lexer and of token i, and that the rest of the world is kept. -/
theorem Lx.held {w0 : World} (h : Lx w pb tb mb c nm L S raw next cur) (hg : w0.grownBy w (some pb)) {i : Nat} {t : Tok} (ht : Hid (t = L.getD i eofTok)) (hi : i < L.length) :
    Lx w pb tb mb c nm L S raw next cur ∧ w0.grownBy w (some pb) ∧
    w.cell? ⟨pb, 0, none⟩ = some (.int .i64 raw) ∧ w.cell? ⟨pb, 1, none⟩ = some (.int .i64 next) ∧ w.cell? ⟨pb, 2, none⟩ = some (.int .i64 cur) ∧
    w.cell? ⟨pb, 3, none⟩ = some (.slice (some ⟨tb, 0, none⟩) L.length c) ∧ w.cell? ⟨pb, 4, none⟩ = some (.map (some mb)) ∧
    w.cell? ⟨tb, i * 6, none⟩ = some (.int .i64 t.ty) ∧ w.cell? ⟨tb, i * 6 + 1, none⟩ = some (.string t.val) ∧ w.cell? ⟨tb, i * 6 + 1 + 1, none⟩ = some (.string t.fn) ∧ w.cell? ⟨tb, i * 6 + 1 + 1 + 1, none⟩ = some (.int .i64 t.off) ∧
    w.cell? ⟨tb, i * 6 + 1 + 1 + 1 + 1, none⟩ = some (.int .i64 t.line) ∧ w.cell? ⟨tb, i * 6 + 1 + 1 + 1 + 1 + 1, none⟩ = some (.int .i64 t.col) ∧
    (Instr.lookup 50 (.map (some mb)) (.int .i64 t.ty) false).run Try.prog w = .ok (.bool (S t.ty)) w := by
  obtain ⟨c0, c1, c2, c3, c4⟩ := h.cells
  obtain ⟨t0, t1, t2, t3, t4, t5⟩ := h.tok hi
  rw [ht.out]
  exact ⟨h, hg, c0, c1, c2, c3, c4, t0, t1, t2, t3, t4, t5, h.looks hi⟩
end

/-! ### Token.EOF -/
theorem eof_any (t : Tok) (w : World) :
    Calls Try.prog 36 #[.agg #[.int .i64 t.ty, .string t.val, .string t.fn, .int .i64 t.off, .int .i64 t.line, .int .i64 t.col]] w fun e w' =>
      e = .returned (.bool (t.ty == -1)) ∧ Below w.heap.size w w' := by
  go_enter Try.func36, Try.ntmps36
  go_wp2
  go_ret
  exact ⟨rfl, (Below.refl _ _).alloc (Nat.le_refl _) _⟩

theorem eof_yes (t : Tok) (w : World) (ht : Hid (t.ty = -1)) :
    Calls Try.prog 36 #[.agg #[.int .i64 t.ty, .string t.val, .string t.fn, .int .i64 t.off, .int .i64 t.line, .int .i64 t.col]] w fun e w' =>
      e = .returned (.bool true) ∧ Below w.heap.size w w' := (eof_any t w).mono fun _ _ ⟨h1, h2⟩ => ⟨by rw [h1, ht.out]; rfl, h2⟩
theorem eof_no (t : Tok) (w : World) (ht : Hid (t.ty ≠ -1)) :
    Calls Try.prog 36 #[.agg #[.int .i64 t.ty, .string t.val, .string t.fn, .int .i64 t.off, .int .i64 t.line, .int .i64 t.col]] w fun e w' =>
      e = .returned (.bool false) ∧ Below w.heap.size w w' := (eof_any t w).mono fun _ _ ⟨h1, h2⟩ => ⟨by rw [h1, beq_eq_false_iff_ne.2 ht.out], h2⟩

/-! ### advanceToNonElided -/
/-- What advanceToNonElided leaves: nextCursor at the nearest stop. -/
def Adv (w : World) (pb tb mb c nm : Nat) (L : List Tok) (S : Int → Bool) (raw cur : Int) (n : Nat) (e : Ending) (w' : World) : Prop :=
  e = .returned (.tuple #[]) ∧ w.grownBy w' (some pb) ∧ Lx w' pb tb mb c nm L S raw (PL.stop S (types L) n : Nat) cur

set_option maxHeartbeats 2000000 in
set_option maxRecDepth 100000 in
theorem adv_any (w : World) (pb tb mb c nm : Nat) (L : List Tok) (S : Int → Bool) (raw cur : Int) (n : Nat) (h : Lx w pb tb mb c nm L S raw n cur) (hs : PL.stop S (types L) n < L.length) :
    Calls Try.prog 61 #[.pointer (some ⟨pb, 0, none⟩)] w (Adv w pb tb mb c nm L S raw cur n) := by
  have HS := Lib.hid hs; clear hs
  have hlen := h.len
  have HH := Lib.hid h; clear h
  go_enter Try.func61, Try.ntmps61
  go_wp2_with fail
  go_loopg [2] (L.length - n) (fun k p wr => ∃ m : Nat, k = L.length - m ∧ n ≤ m ∧ m ≤ PL.stop S (types L) n ∧ PL.stop S (types L) m = PL.stop S (types L) n ∧ w.grownBy wr (some pb) ∧ Lx wr pb tb mb c nm L S raw m cur)
  case atStart => exact ⟨n, rfl, Nat.le_refl _, PL.le_stop _, rfl, World.grownBy.refl _ _, HH.out⟩
  case round =>
    obtain ⟨m, hk, hnm, hms, hst, hg, hx⟩ := hrel
    have hml : m < L.length := Nat.lt_of_le_of_lt hms HS.out
    obtain ⟨t, ht⟩ : ∃ t, t = L.getD m eofTok := ⟨_, rfl⟩
    have HT := Lib.hid ht; clear ht
    obtain ⟨-, -, c0, c1, c2, c3, c4, t0, t1, t2, t3, t4, t5, hlk⟩ := hx.held hg HT hml
    have hi0 : (0 : Int) ≤ (m : Int) := by omega
    have hi1 : (m : Int) < (L.length : Int) := by omega
    have KK := Lib.hid hk; clear hk
    have KS := Lib.hid hst; clear hst
    go_wp2_with fail
    go_quiet (fail)
    go_wp2_with fail
    have hist : PL.isStop S (types L) m = (t.ty == -1 || !S t.ty) := by unfold PL.isStop; rw [at_types, ← HT.out]
    have HI := Lib.hid hist; clear hist
    by_cases hE : t.ty = -1
    case neg =>
      have HE := Lib.hid hE; clear hE
      cases hS : S t.ty
      · go_region_held3 (fun w' => Lx w' pb tb mb c nm L S raw m cur ∧ w.grownBy w' (some pb) ∧
          w'.cell? ⟨pb, 0, none⟩ = some (.int .i64 raw) ∧ w'.cell? ⟨pb, 1, none⟩ = some (.int .i64 m) ∧ w'.cell? ⟨pb, 2, none⟩ = some (.int .i64 cur) ∧
          w'.cell? ⟨pb, 3, none⟩ = some (.slice (some ⟨tb, 0, none⟩) L.length c) ∧ w'.cell? ⟨pb, 4, none⟩ = some (.map (some mb)) ∧
          w'.cell? ⟨tb, m * 6, none⟩ = some (.int .i64 t.ty) ∧ w'.cell? ⟨tb, m * 6 + 1, none⟩ = some (.string t.val) ∧ w'.cell? ⟨tb, m * 6 + 1 + 1, none⟩ = some (.string t.fn) ∧ w'.cell? ⟨tb, m * 6 + 1 + 1 + 1, none⟩ = some (.int .i64 t.off) ∧
          w'.cell? ⟨tb, m * 6 + 1 + 1 + 1 + 1, none⟩ = some (.int .i64 t.line) ∧ w'.cell? ⟨tb, m * 6 + 1 + 1 + 1 + 1 + 1, none⟩ = some (.int .i64 t.col) ∧
          (Instr.lookup 50 (.map (some mb)) (.int .i64 t.ty) false).run Try.prog w' = .ok (.bool (S t.ty)) w')
          (first | assumption | exact Lx.held (hx.drewN _).drew (grown_drew (grown_drewN hg _)) HT hml | (go_split_ands; exact Lx.held (Lx.later (by assumption) hbl) (World.grownBy.trans (by assumption) (grown_of_below hbl _)) HT hml))
          (first | (go_at_call 36; refine (eof_no t _ HE).mono ?_; rintro e w' ⟨rfl, hbl⟩))
        obtain ⟨hx1, hg1, -⟩ := ‹Lx _ pb tb mb c nm L S raw m cur ∧ _›
        go_wp2_with fail
        refine bodyPost_ret (v := .tuple #[]) (by simp [results, Try.results61]) rfl ⟨rfl, hg1, ?_⟩
        rw [← KS.out, PL.stop_of_stop (by rw [HI.out, hS, beq_eq_false_iff_ne.2 HE.out]; rfl)]
        exact hx1
      · go_region_held3 (fun w' => Lx w' pb tb mb c nm L S raw m cur ∧ w.grownBy w' (some pb) ∧
          w'.cell? ⟨pb, 0, none⟩ = some (.int .i64 raw) ∧ w'.cell? ⟨pb, 1, none⟩ = some (.int .i64 m) ∧ w'.cell? ⟨pb, 2, none⟩ = some (.int .i64 cur) ∧
          w'.cell? ⟨pb, 3, none⟩ = some (.slice (some ⟨tb, 0, none⟩) L.length c) ∧ w'.cell? ⟨pb, 4, none⟩ = some (.map (some mb)) ∧
          w'.cell? ⟨tb, m * 6, none⟩ = some (.int .i64 t.ty) ∧ w'.cell? ⟨tb, m * 6 + 1, none⟩ = some (.string t.val) ∧ w'.cell? ⟨tb, m * 6 + 1 + 1, none⟩ = some (.string t.fn) ∧ w'.cell? ⟨tb, m * 6 + 1 + 1 + 1, none⟩ = some (.int .i64 t.off) ∧
          w'.cell? ⟨tb, m * 6 + 1 + 1 + 1 + 1, none⟩ = some (.int .i64 t.line) ∧ w'.cell? ⟨tb, m * 6 + 1 + 1 + 1 + 1 + 1, none⟩ = some (.int .i64 t.col) ∧
          (Instr.lookup 50 (.map (some mb)) (.int .i64 t.ty) false).run Try.prog w' = .ok (.bool (S t.ty)) w')
          (first | assumption | exact Lx.held (hx.drewN _).drew (grown_drew (grown_drewN hg _)) HT hml | (go_split_ands; exact Lx.held (Lx.later (by assumption) hbl) (World.grownBy.trans (by assumption) (grown_of_below hbl _)) HT hml))
          (first | (go_at_call 36; refine (eof_no t _ HE).mono ?_; rintro e w' ⟨rfl, hbl⟩))
        obtain ⟨hx1, hg1, -⟩ := ‹Lx _ pb tb mb c nm L S raw m cur ∧ _›
        have hfz := hx1.blk.frozen 1
        go_wp2_with fail
        have hns : PL.isStop S (types L) m = false := by rw [HI.out, hS, beq_eq_false_iff_ne.2 HE.out]; rfl
        have hne : m ≠ PL.stop S (types L) n := fun e => by
          have := (PL.stop_spec (S := S) (T := types L) n).2
          rw [← e, hns] at this; cases this
        go_roundg (L.length - (m + 1))
        case measure => rw [KK.out]; omega
        case rel => exact ⟨m + 1, rfl, by omega, by omega, by rw [← PL.stop_of_not hns]; exact KS.out, grown_setCell hg1 (.inl rfl) _, by have := hx1.setNext ((m : Int) + 1); rwa [show ((m : Int) + 1) = ((m + 1 : Nat) : Int) by omega] at this⟩
    case pos =>
      have HE := Lib.hid hE; clear hE
      refine wp_region_held_drew (S := (fun w' => Lx w' pb tb mb c nm L S raw m cur ∧ w.grownBy w' (some pb) ∧ w'.cell? ⟨pb, 0, none⟩ = some (.int .i64 raw) ∧ w'.cell? ⟨pb, 1, none⟩ = some (.int .i64 m) ∧ w'.cell? ⟨pb, 2, none⟩ = some (.int .i64 cur) ∧ w'.cell? ⟨pb, 3, none⟩ = some (.slice (some ⟨tb, 0, none⟩) L.length c) ∧ w'.cell? ⟨pb, 4, none⟩ = some (.map (some mb)) ∧ w'.cell? ⟨tb, m * 6, none⟩ = some (.int .i64 t.ty) ∧ w'.cell? ⟨tb, m * 6 + 1, none⟩ = some (.string t.val) ∧ w'.cell? ⟨tb, m * 6 + 1 + 1, none⟩ = some (.string t.fn) ∧ w'.cell? ⟨tb, m * 6 + 1 + 1 + 1, none⟩ = some (.int .i64 t.off) ∧ w'.cell? ⟨tb, m * 6 + 1 + 1 + 1 + 1, none⟩ = some (.int .i64 t.line) ∧ w'.cell? ⟨tb, m * 6 + 1 + 1 + 1 + 1 + 1, none⟩ = some (.int .i64 t.col) ∧ (Instr.lookup 50 (.map (some mb)) (.int .i64 t.ty) false).run Try.prog w' = .ok (.bool (S t.ty)) w')) (by kernel_rfl) (Lx.held (hx.drewN _).drew (grown_drew (grown_drewN hg _)) HT hml) (fun hHeld => ?_)
      refine wpAnyH_take (i := 0) (v := ?_) rfl (by kernel_rfl) (by kernel_rfl) (by kernel_rfl) (fun _ _ _ h => h) (Or.inl ⟨by rfl, ?_⟩) (by assumption) ?_
      rotate_left
      · (intro w hSw; (try dsimp only at hSw); go_simp; try (with_reducible rfl))
      try simp only [Act.put, List.getElem_toArray, List.getElem_cons_zero, List.getElem_cons_succ, List.setIfInBounds_toArray, List.set_cons_zero, List.set_cons_succ]
      refine wpAnyH_take (i := 1) (v := ?_) rfl (by kernel_rfl) (by kernel_rfl) (by kernel_rfl) (fun _ _ _ h => h) (Or.inl ⟨by rfl, ?_⟩) (by assumption) ?_
      rotate_left
      · (intro w hSw; (try dsimp only at hSw); go_simp; try (with_reducible rfl))
      try simp only [Act.put, List.getElem_toArray, List.getElem_cons_zero, List.getElem_cons_succ, List.setIfInBounds_toArray, List.set_cons_zero, List.set_cons_succ]
      refine wpAnyH_take (i := 2) (v := ?_) rfl (by kernel_rfl) (by kernel_rfl) (by kernel_rfl) (fun _ _ _ h => h) (Or.inl ⟨by rfl, ?_⟩) (by assumption) ?_
      rotate_left
      · (intro w hSw; (try dsimp only at hSw); go_simp; try (with_reducible rfl))
      try simp only [Act.put, List.getElem_toArray, List.getElem_cons_zero, List.getElem_cons_succ, List.setIfInBounds_toArray, List.set_cons_zero, List.set_cons_succ]
      refine wpAnyH_ready (rs := [3]) (by kernel_rfl) (by simp) ?_
      refine AllReadyH.cons rfl (fun K hK => ?_) AllReadyH.nil
      go_simp
      refine (eof_yes t _ HE).mono ?_
      rintro e w' ⟨rfl, hbl⟩
      refine hK.out _ _ (Lx.held ((hx.drewN _).drew.later hbl) (World.grownBy.trans (grown_drew (grown_drewN hg _)) (grown_of_below hbl _)) HT hml) (fun hHeld => ?_)
      clear hK K
      try simp only [Act.put, List.getElem_toArray, List.getElem_cons_zero, List.getElem_cons_succ, List.setIfInBounds_toArray, List.set_cons_zero, List.set_cons_succ]
      refine wpAnyH_take (i := 4) (v := ?_) rfl (by kernel_rfl) (by kernel_rfl) (by kernel_rfl) (fun _ _ _ h => h) (Or.inl ⟨by rfl, ?_⟩) (by assumption) ?_
      rotate_left
      · (intro w hSw; (try dsimp only at hSw); go_simp; try (with_reducible rfl))
      try simp only [Act.put, List.getElem_toArray, List.getElem_cons_zero, List.getElem_cons_succ, List.setIfInBounds_toArray, List.set_cons_zero, List.set_cons_succ]
      refine wpAnyH_take (i := 5) (v := undef) rfl (by kernel_rfl) (by kernel_rfl) (by kernel_rfl) (fun _ _ _ h => h) (Or.inr ⟨by rfl, rfl⟩) (by assumption) ?_
      try simp only [Act.put, List.getElem_toArray, List.getElem_cons_zero, List.getElem_cons_succ, List.setIfInBounds_toArray, List.set_cons_zero, List.set_cons_succ]
      refine wpAnyH_take (i := 6) (v := undef) rfl (by kernel_rfl) (by kernel_rfl) (by kernel_rfl) (fun _ _ _ h => h) (Or.inr ⟨by rfl, rfl⟩) (by assumption) ?_
      try simp only [Act.put, List.getElem_toArray, List.getElem_cons_zero, List.getElem_cons_succ, List.setIfInBounds_toArray, List.set_cons_zero, List.set_cons_succ]
      refine wpAnyH_take (i := 7) (v := undef) rfl (by kernel_rfl) (by kernel_rfl) (by kernel_rfl) (fun _ _ _ h => h) (Or.inr ⟨by rfl, rfl⟩) (by assumption) ?_
      try simp only [Act.put, List.getElem_toArray, List.getElem_cons_zero, List.getElem_cons_succ, List.setIfInBounds_toArray, List.set_cons_zero, List.set_cons_succ]
      refine wpAnyH_take (i := 8) (v := undef) rfl (by kernel_rfl) (by kernel_rfl) (by kernel_rfl) (fun _ _ _ h => h) (Or.inr ⟨by rfl, rfl⟩) (by assumption) ?_
      try simp only [Act.put, List.getElem_toArray, List.getElem_cons_zero, List.getElem_cons_succ, List.setIfInBounds_toArray, List.set_cons_zero, List.set_cons_succ]
      refine wpAnyH_take (i := 9) (v := undef) rfl (by kernel_rfl) (by kernel_rfl) (by kernel_rfl) (fun _ _ _ h => h) (Or.inr ⟨by rfl, rfl⟩) (by assumption) ?_
      try simp only [Act.put, List.getElem_toArray, List.getElem_cons_zero, List.getElem_cons_succ, List.setIfInBounds_toArray, List.set_cons_zero, List.set_cons_succ]
      refine wpAnyH_take (i := 10) (v := undef) rfl (by kernel_rfl) (by kernel_rfl) (by kernel_rfl) (fun _ _ _ h => h) (Or.inr ⟨by rfl, rfl⟩) (by assumption) ?_
      try simp only [Act.put, List.getElem_toArray, List.getElem_cons_zero, List.getElem_cons_succ, List.setIfInBounds_toArray, List.set_cons_zero, List.set_cons_succ]
      refine wpAnyH_take (i := 11) (v := undef) rfl (by kernel_rfl) (by kernel_rfl) (by kernel_rfl) (fun _ _ _ h => h) (Or.inr ⟨by rfl, rfl⟩) (by assumption) ?_
      try simp only [Act.put, List.getElem_toArray, List.getElem_cons_zero, List.getElem_cons_succ, List.setIfInBounds_toArray, List.set_cons_zero, List.set_cons_succ]
      refine wpAnyH_take (i := 12) (v := undef) rfl (by kernel_rfl) (by kernel_rfl) (by kernel_rfl) (fun _ _ _ h => h) (Or.inr ⟨by rfl, rfl⟩) (by assumption) ?_
      try simp only [Act.put, List.getElem_toArray, List.getElem_cons_zero, List.getElem_cons_succ, List.setIfInBounds_toArray, List.set_cons_zero, List.set_cons_succ]
      refine wpAnyH_take (i := 13) (v := undef) rfl (by kernel_rfl) (by kernel_rfl) (by kernel_rfl) (fun _ _ _ h => h) (Or.inr ⟨by rfl, rfl⟩) (by assumption) ?_
      try simp only [Act.put, List.getElem_toArray, List.getElem_cons_zero, List.getElem_cons_succ, List.setIfInBounds_toArray, List.set_cons_zero, List.set_cons_succ]
      refine wpAnyH_take (i := 14) (v := undef) rfl (by kernel_rfl) (by kernel_rfl) (by kernel_rfl) (fun _ _ _ h => h) (Or.inr ⟨by rfl, rfl⟩) (by assumption) ?_
      try simp only [Act.put, List.getElem_toArray, List.getElem_cons_zero, List.getElem_cons_succ, List.setIfInBounds_toArray, List.set_cons_zero, List.set_cons_succ]
      refine wpAnyH_take (i := 15) (v := ?_) rfl (by kernel_rfl) (by kernel_rfl) (by kernel_rfl) (fun _ _ _ h => h) (Or.inl ⟨by rfl, ?_⟩) (by assumption) ?_
      rotate_left
      · (intro w hSw; (try dsimp only at hSw); go_simp; try (with_reducible rfl))
      try simp only [Act.put, List.getElem_toArray, List.getElem_cons_zero, List.getElem_cons_succ, List.setIfInBounds_toArray, List.set_cons_zero, List.set_cons_succ]
      refine wpAnyH_done (by kernel_rfl) ?_ _
      obtain ⟨hx1, hg1, -⟩ := ‹Lx _ pb tb mb c nm L S raw m cur ∧ _›
      go_wp2_with fail
      refine bodyPost_ret (v := .tuple #[]) (by simp [results, Try.results61]) rfl ⟨rfl, hg1, ?_⟩
      rw [← KS.out, PL.stop_of_stop (by rw [HI.out, HE.out]; rfl)]
      exact hx1
end Go.Proofs.Ytomfonilbenhbaa
