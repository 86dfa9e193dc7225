/-
  ConsumeAll over any lexer of the law's own: the whole list, or the error. Conditions: the lexer's memory and the contract of its Next, as 'Src' and 'Fails' say.
-/
import Derived.Test.YtomfonilbenhbaaY2
namespace Go.Proofs.Ytomfonilbenhbaa
open Go.RowKit
set_option linter.unusedSimpArgs false
set_option linter.unusedVariables false
namespace Tp
open Up
/-- The world in ConsumeAll's loop, behind j tokens. -/
structure Cs (w wr : World) (zb : Nat) (TZ : TypeId) (cs : Array Value) (tb : Nat) (L : List Tok) (j : Nat) (v : Value) : Prop where
  z : Blk wr zb TZ cs
  src : Row wr tb 46 (toksCells L)
  own : wr.ownsRow w.heap.size 46 6 v j (toksCells (L.take j))
  tlt : tb < w.heap.size
  grown : w.grownBy wr (some zb)
theorem Cs.next {w wr w5 : World} {zb : Nat} {TZ : TypeId} {cs cs' : Array Value} {tb : Nat} {L : List Tok} {j : Nat} {v : Value} (h : Cs w wr zb TZ cs tb L j v) (hne : TZ ≠ 46)
    (hz : Blk w5 zb TZ cs') (hg : wr.grownBy w5 (some zb)) : Cs w w5 zb TZ cs' tb L j v where
  z := hz
  src := h.src.grown hg (by intro e; injection e with e; exact h.src.ne_blk h.z (Ne.symm hne) e)
  own := own_keep h.own (fun g hgo => hg.block g (by
    rcases own_row h.own with ⟨h1, -, -⟩ | ⟨g', c, -, h1, -, hr⟩
    · rw [h1] at hgo; cases hgo
    · rw [h1] at hgo; injection hgo with hgo; subst hgo; exact hr.lt) (by
    intro e; injection e with e; exact own_ne_blk h.own h.z (Ne.symm hne) (by rw [← e, hgo])))
  tlt := h.tlt
  grown := h.grown.trans hg
theorem Cs.push {w w5 w9 : World} {zb : Nat} {TZ : TypeId} {cs : Array Value} {tb : Nat} {L : List Tok} {j : Nat} {v : Value} (h : Cs w w5 zb TZ cs tb L j v) (hne : TZ ≠ 46)
    {o1 o2 : Obj} (hg : ((w5.alloc o1).alloc o2).grownBy w9 v.ownBlock) {g2 cap2 : Nat} (hj : j < L.length)
    (hown : w9.ownsRow w.heap.size 46 6 (.slice (some ⟨g2, 0, none⟩) (j + 1) cap2) (j + 1) (toksCells (L.take j) ++ (L.getD j eofTok).cells)) :
    Cs w w9 zb TZ cs tb L (j + 1) (.slice (some ⟨g2, 0, none⟩) (j + 1) cap2) := by
  refine ⟨((h.z.alloc o1).alloc o2).grown hg (own_ne_blk h.own h.z (Ne.symm hne)), ((h.src.alloc o1).alloc o2).grown hg (own_lt_ne h.own h.tlt), ?_, h.tlt, grown_own (grown_alloc (grown_alloc h.grown o1) o2) hg (own_base h.own)⟩
  rw [take_toks hj]; exact hown
theorem news6p {w : World} {o1 : Obj} {a0 a1 a2 a3 a4 a5 : Value} {t : TypeId} : ∀ (j : Nat) (u : Value), [a0, a1, a2, a3, a4, a5][j]? = some u → ((w.alloc o1).alloc (.cells #[a0, a1, a2, a3, a4, a5] t)).cell? ((⟨w.heap.size + 1, 0, none⟩ : Addr).add j) = some u := by
  have e : w.heap.size + 1 = (w.alloc o1).heap.size := by simp
  rw [e]
  exact World.news_of_block (heap_alloc_new _ _)
def ConPost (w : World) (zb : Nat) (L : List Tok) (e : Ending) (w' : World) : Prop :=
  ∃ g c, e = .returned (.tuple #[.slice (some ⟨g, 0, none⟩) L.length c, .nilIface]) ∧ Row w' g 46 (toksCells L) ∧ w.heap.size ≤ g ∧ w.grownBy w' (some zb)
set_option maxHeartbeats 4000000 in
set_option maxRecDepth 100000 in
theorem con_any (T : TypeId) (F : Nat) (zb : Nat) (TZ : TypeId) (Z : Nat → Array Value) (tb : Nat) (L : List Tok) (w : World) (hs : Src T F zb TZ Z tb L L.length)
    (hz : Blk w zb TZ (Z 0)) (hr : Row w tb 46 (toksCells L)) (hF : PL.First (types L) (L.length - 1)) (hL0 : 0 < L.length) (hL1 : L.length ≤ 1048576) :
    Calls Try.prog 30 #[.iface T (.pointer (some ⟨zb, 0, none⟩))] w (ConPost w zb L) := by
  obtain ⟨i0, hi, hz0, hz1, hz2⟩ := info_parts Go.Proofs.Ytomfonilbenhbaa.tokInfo
  have HS := Lib.hid hs
  have hm := hs.meth
  have hent := hs.enter
  have HF := Lib.hid hF
  have HZ := Lib.hid hz
  have HR := Lib.hid hr
  have hzlt := hz.lt
  have htlt := hr.lt
  clear hs hF hz hr
  go_enter Try.func30, Try.ntmps30
  go_wp2_with (at_make; refine wpList_make_own _ rfl _ _ 27 rfl w.heap.size 46 i0 _ 6 Try.underlying27 hi hz0 hz1 _ _ _ 1024 rfl rfl (by omega) (by rw [hz2]; omega) (by unfold maxLen; omega) (Nat.le_refl _) ?_; intro w1 hown1 hg1)
  have hC : Cs w w1 zb TZ (Z 0) tb L 0 (.slice (some ⟨w.heap.size, 0, none⟩) 0 1024) := ⟨HZ.out.grown hg1 (by intro e; cases e), HR.out.grown hg1 (by intro e; cases e), hown1, htlt, grown_own (World.grownBy.refl _ _) hg1 (fun k h => by cases h)⟩
  clear hg1 hown1
  go_loopg [4] L.length (fun k v wx => ∃ j : Nat, k = L.length - j ∧ j < L.length ∧ Cs w wx zb TZ (Z j) tb L j v)
  case atStart => exact ⟨0, rfl, hL0, hC⟩
  case round =>
    clear hC
    obtain ⟨j, hk, hj, hM⟩ := hrel
    have KK := Lib.hid hk; clear hk
    go_wp2_with fail
    refine (HS.out.next j _ hj hM.z hM.src).mono ?_
    rintro e w5 ⟨rfl, hz5, hg5⟩
    have hM5 := hM.next HS.out.ne.1 hz5 hg5
    clear hM hz5 hg5
    obtain ⟨t, ht⟩ : ∃ t, t = L.getD j eofTok := ⟨_, rfl⟩
    rw [← ht]
    have HT := Lib.hid ht
    clear ht
    unfold Tok.agg
    have hsz := hM5.grown.size
    go_wp2_with (at_builtin; refine wpList_append_lies _ rfl _ _ 27 rfl w.heap.size 46 i0 _ 6 64 Try.underlying27 hi hz0 hz1 hz2 rfl (by omega) u4 j (toksCells (L.take j)) rfl ((hM5.own.alloc _).alloc _) ⟨w5.heap.size + 1, 0, none⟩ 1 1 [.int .i64 t.ty, .string t.val, .string t.fn, .int .i64 t.off, .int .i64 t.line, .int .i64 t.col] rfl rfl news6p (by simp [Value.oneCell']) (by omega) (by unfold maxLen; omega) (by omega) (by simp; omega) (w5.heap.size + 1 + 1) (by simp) ?_; intro g2 cap2 w9 hown9 hg9 hat hlt9; have hcells : (L.getD j eofTok).cells = [.int .i64 t.ty, .string t.val, .string t.fn, .int .i64 t.off, .int .i64 t.line, .int .i64 t.col] := (by rw [← HT.out]; rfl); rw [← hcells] at hown9; have hM9 := hM5.push HS.out.ne.1 hg9 hj hown9; have hL9 := ((Blk.new w5 46 #[.int .i64 t.ty, .string t.val, .string t.fn, .int .i64 t.off, .int .i64 t.line, .int .i64 t.col]).alloc _).grown hg9 (own_ne_new hM5.own); have q0 := hL9.cell 0; simp at q0; have hgb := own_base hM9.own g2 rfl; clear hown9 hg9 hat hlt9 hL9 hcells hM5)
    · have hE : t.ty = -1 := by simpa using ‹(t.ty == -1) = true›
      have hjl : j + 1 = L.length := by
        rcases Nat.lt_or_ge j (L.length - 1) with g | g
        · have := HF.out.none j g
          rw [at_types, ← HT.out] at this
          exact absurd hE this
        · omega
      rw [hjl] at hM9
      have hown := hM9.own
      rw [List.take_length] at hown
      go_ret2
      refine ⟨g2, cap2, ?_, Row.of_own hown, hgb, hM9.grown⟩
      rw [← hjl]; rfl
    · have hE : t.ty ≠ -1 := by simpa using ‹(t.ty == -1) = false›
      have hjl : j + 1 < L.length := by
        rcases Nat.lt_or_ge (j + 1) L.length with g | g
        · exact g
        · exfalso
          have := HF.out.eof
          rw [at_types, show L.length - 1 = j by omega, ← HT.out] at this
          exact hE this
      go_roundg (L.length - (j + 1))
      case measure => rw [KK.out]; omega
      case rel => exact ⟨j + 1, rfl, hjl, hM9⟩
set_option maxHeartbeats 4000000 in
set_option maxRecDepth 100000 in
theorem con_fail (T : TypeId) (F : Nat) (zb : Nat) (TZ : TypeId) (Z : Nat → Array Value) (tb : Nat) (L : List Tok) (w : World) (m : Nat) (TE : TypeId) (ZF : Value → Array Value) (EB : Nat → Prop) (hs : Src T F zb TZ Z tb L m) (hfl : Fails F zb TZ Z tb L m TE ZF EB) (hmL : m < L.length)
    (hz : Blk w zb TZ (Z 0)) (hr : Row w tb 46 (toksCells L)) (hF : PL.First (types L) (L.length - 1)) (hL1 : L.length ≤ 1048576) :
    Calls Try.prog 30 #[.iface T (.pointer (some ⟨zb, 0, none⟩))] w fun e w' => ∃ eb : Nat, EB eb ∧ e = .returned (.tuple #[.slice none 0 0, .iface TE (.pointer (some ⟨eb, 0, none⟩))]) ∧ w.grownBy w' (some zb) ∧ Blk w' zb TZ (ZF (.pointer (some ⟨eb, 0, none⟩))) := by
  obtain ⟨i0, hi, hz0, hz1, hz2⟩ := info_parts Go.Proofs.Ytomfonilbenhbaa.tokInfo
  have HS := Lib.hid hs
  have HFL := Lib.hid hfl
  have hm := hs.meth
  have hent := hs.enter
  have HF := Lib.hid hF
  have HZ := Lib.hid hz
  have HR := Lib.hid hr
  have hzlt := hz.lt
  have htlt := hr.lt
  clear hs hF hz hr hfl
  go_enter Try.func30, Try.ntmps30
  go_wp2_with (at_make; refine wpList_make_own _ rfl _ _ 27 rfl w.heap.size 46 i0 _ 6 Try.underlying27 hi hz0 hz1 _ _ _ 1024 rfl rfl (by omega) (by rw [hz2]; omega) (by unfold maxLen; omega) (Nat.le_refl _) ?_; intro w1 hown1 hg1)
  have hC : Cs w w1 zb TZ (Z 0) tb L 0 (.slice (some ⟨w.heap.size, 0, none⟩) 0 1024) := ⟨HZ.out.grown hg1 (by intro e; cases e), HR.out.grown hg1 (by intro e; cases e), hown1, htlt, grown_own (World.grownBy.refl _ _) hg1 (fun k h => by cases h)⟩
  clear hg1 hown1
  go_loopg [4] L.length (fun k v wx => ∃ j : Nat, k = L.length - j ∧ j ≤ m ∧ Cs w wx zb TZ (Z j) tb L j v)
  case atStart => exact ⟨0, rfl, Nat.zero_le _, hC⟩
  case round =>
    clear hC
    obtain ⟨j, hk, hj, hM⟩ := hrel
    have KK := Lib.hid hk; clear hk
    by_cases hjm : j < m
    · go_wp2_with fail
      refine (HS.out.next j _ hjm hM.z hM.src).mono ?_
      rintro e w5 ⟨rfl, hz5, hg5⟩
      have hM5 := hM.next HS.out.ne.1 hz5 hg5
      clear hM hz5 hg5
      have hE : (L.getD j eofTok).ty ≠ -1 := by
        have := HF.out.none j (by omega)
        rwa [at_types] at this
      obtain ⟨t, ht⟩ : ∃ t, t = L.getD j eofTok := ⟨_, rfl⟩
      rw [← ht] at hE ⊢
      have HT := Lib.hid ht
      clear ht
      have hEb : (t.ty == -1) = false := by simpa using hE
      clear hE
      unfold Tok.agg
      have hsz := hM5.grown.size
      go_wp2_with (at_builtin; refine wpList_append_lies _ rfl _ _ 27 rfl w.heap.size 46 i0 _ 6 64 Try.underlying27 hi hz0 hz1 hz2 rfl (by omega) u4 j (toksCells (L.take j)) rfl ((hM5.own.alloc _).alloc _) ⟨w5.heap.size + 1, 0, none⟩ 1 1 [.int .i64 t.ty, .string t.val, .string t.fn, .int .i64 t.off, .int .i64 t.line, .int .i64 t.col] rfl rfl news6p (by simp [Value.oneCell']) (by omega) (by unfold maxLen; omega) (by omega) (by simp; omega) (w5.heap.size + 1 + 1) (by simp) ?_; intro g2 cap2 w9 hown9 hg9 hat hlt9; have hcells : (L.getD j eofTok).cells = [.int .i64 t.ty, .string t.val, .string t.fn, .int .i64 t.off, .int .i64 t.line, .int .i64 t.col] := (by rw [← HT.out]; rfl); rw [← hcells] at hown9; have hM9 := hM5.push HS.out.ne.1 hg9 (by omega) hown9; have hL9 := ((Blk.new w5 46 #[.int .i64 t.ty, .string t.val, .string t.fn, .int .i64 t.off, .int .i64 t.line, .int .i64 t.col]).alloc _).grown hg9 (own_ne_new hM5.own); have q0 := hL9.cell 0; simp at q0; clear hown9 hg9 hat hlt9 hL9 hcells hM5)
      go_roundg (L.length - (j + 1))
      case measure => rw [KK.out]; omega
      case rel => exact ⟨j + 1, rfl, by omega, hM9⟩
    · obtain rfl : j = m := by omega
      go_wp2_with fail
      refine (HFL.out _ hM.z hM.src).mono ?_
      rintro e w5 ⟨eb, hEB, rfl, hz5, hg5⟩
      have HEB := Lib.hid hEB
      clear hEB
      have HG := Lib.hid (grown_alloc (hM.grown.trans hg5) (.cells #[.int .i64 0, .string ⟨#[]⟩, .string ⟨#[]⟩, .int .i64 0, .int .i64 0, .int .i64 0] 46))
      have HZ5 := Lib.hid (hz5.alloc (.cells #[.int .i64 0, .string ⟨#[]⟩, .string ⟨#[]⟩, .int .i64 0, .int .i64 0, .int .i64 0] 46))
      clear hM hz5 hg5
      unfold zeroAgg
      go_wp2_with fail
      go_ret2
      exact ⟨eb, HEB.out, rfl, HG.out, HZ5.out⟩
end Tp
end Go.Proofs.Ytomfonilbenhbaa
