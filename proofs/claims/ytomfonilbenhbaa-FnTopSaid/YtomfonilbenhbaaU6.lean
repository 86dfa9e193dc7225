/-
  Upgrade over any lexer of the law's own: what it reads, what it keeps. Conditions: the lexer's memory and the contract of its Next, as 'Src' says.
-/
import Derived.Test.YtomfonilbenhbaaU5
namespace Go.Proofs.Ytomfonilbenhbaa
open Go.RowKit
set_option linter.unusedSimpArgs false
set_option linter.unusedVariables false
namespace Up
/-- A lexer behind an interface: its dynamic type T, its Next F, its block zb (of type TZ; cells Z j behind j calls), its token row tb. -/
structure Src (T : TypeId) (F : Nat) (zb : Nat) (TZ : TypeId) (Z : Nat → Array Value) (tb : Nat) (L : List Tok) (m : Nat) : Prop where
  meth : ∀ W : World, (method 236 T (.pointer (some ⟨zb, 0, none⟩)) "Next").run Try.prog W = .ok (F, .pointer (some ⟨zb, 0, none⟩)) W
  enter : ∀ (args : Array Value) (W : World), (callFunc F args).run Try.prog W = .ok (.enter F args) W
  ne : TZ ≠ 46 ∧ TZ ≠ 52
  next : ∀ (j : Nat) (W : World), j < m → Blk W zb TZ (Z j) → Row W tb 46 (toksCells L) →
    Calls Try.prog F #[.pointer (some ⟨zb, 0, none⟩)] W fun e W' => e = .returned (.tuple #[(L.getD j eofTok).agg, .nilIface]) ∧ Blk W' zb TZ (Z (j + 1)) ∧ W.grownBy W' (some zb)
theorem news6 {w : World} {o1 : Obj} {a0 a1 a2 a3 a4 a5 : Value} {t : TypeId} : ∀ (j : Nat) (u : Value), [a0, a1, a2, a3, a4, a5][j]? = some u → ((w.alloc o1).alloc (.cells #[a0, a1, a2, a3, a4, a5] t)).drew.cell? ((⟨w.heap.size + 1, 0, none⟩ : Addr).add j) = some u := by
  have e : w.heap.size + 1 = (w.alloc o1).heap.size := by simp
  rw [e]
  exact World.news_of_block (heap_alloc_new _ _)
/-- The world in Upgrade's reading loop, behind j tokens. -/
structure Mid (w wr : World) (zb : Nat) (TZ : TypeId) (cs : Array Value) (tb : Nat) (L : List Tok) (j rb mb nm : Nat) (S : Int → Bool) (v : Value) : Prop where
  z : Blk wr zb TZ cs
  src : Row wr tb 46 (toksCells L)
  r : Blk wr rb 52 #[.int .i64 0, .int .i64 0, .int .i64 0, v, .map (some mb)]
  set : BSet Try.prog 42 4 wr mb nm S
  own : wr.ownsRow w.heap.size 46 6 v j (toksCells (L.take j))
  rge : w.heap.size ≤ rb
  mge : w.heap.size ≤ mb
  tlt : tb < w.heap.size
  grown : w.grownBy wr (some zb)
theorem Mid.next {w wr w5 : World} {zb : Nat} {TZ : TypeId} {cs cs' : Array Value} {tb : Nat} {L : List Tok} {j rb mb nm : Nat} {S : Int → Bool} {v : Value} (h : Mid w wr zb TZ cs tb L j rb mb nm S v) (hne : TZ ≠ 46 ∧ TZ ≠ 52)
    (hz : Blk w5 zb TZ cs') (hg : wr.grownBy w5 (some zb)) : Mid w w5 zb TZ cs' tb L j rb mb nm S v where
  z := hz
  src := h.src.grown hg (by intro e; injection e with e; exact h.src.ne_blk h.z (Ne.symm hne.1) e)
  r := h.r.grown hg (by intro e; injection e with e; exact h.r.ne h.z (Ne.symm hne.2) e)
  set := h.set.grown hg (by intro e; injection e with e; exact h.set.ne_blk h.z e)
  own := own_keep h.own (fun g hgo => hg.block g (by
    rcases own_row h.own with ⟨h1, -, -⟩ | ⟨g', c, -, h1, -, hr⟩
    · rw [h1] at hgo; cases hgo
    · rw [h1] at hgo; injection hgo with hgo; subst hgo; exact hr.lt) (by
    intro e; injection e with e; exact own_ne_blk h.own h.z (Ne.symm hne.1) (by rw [← e, hgo])))
  rge := h.rge
  mge := h.mge
  tlt := h.tlt
  grown := h.grown.trans hg
theorem grown_own {w W W' : World} {r row : Option Nat} (h : w.grownBy W r) (hg : W.grownBy W' row) (hb : ∀ k, row = some k → w.heap.size ≤ k) : w.grownBy W' r :=
  ⟨hg.os.trans h.os, hg.tape.trans h.tape, hg.output.trans h.output, Nat.le_trans h.size hg.size, fun i hi hne => (hg.block i (Nat.lt_of_lt_of_le hi h.size) (by intro e; have := hb i e.symm; omega)).trans (h.block i hi hne)⟩
theorem take_toks {L : List Tok} {j : Nat} (hj : j < L.length) : toksCells (L.take (j + 1)) = toksCells (L.take j) ++ (L.getD j eofTok).cells := by
  rw [List.take_succ_eq_append_getElem hj, toksCells_snoc, List.getD_eq_getElem?_getD, List.getElem?_eq_getElem hj]; rfl
theorem Mid.push {w w5 w9 : World} {zb : Nat} {TZ : TypeId} {cs : Array Value} {tb : Nat} {L : List Tok} {j rb mb nm : Nat} {S : Int → Bool} {v : Value} (h : Mid w w5 zb TZ cs tb L j rb mb nm S v) (hne : TZ ≠ 46 ∧ TZ ≠ 52)
    {o1 o2 : Obj} (hg : (((w5.alloc o1).alloc o2).drew).grownBy w9 v.ownBlock) {g2 cap2 : Nat} (hj : j < L.length)
    (hown : w9.ownsRow w.heap.size 46 6 (.slice (some ⟨g2, 0, none⟩) (j + 1) cap2) (j + 1) (toksCells (L.take j) ++ (L.getD j eofTok).cells)) :
    Mid w (w9.setCell ⟨rb, 3, none⟩ (.slice (some ⟨g2, 0, none⟩) (j + 1) cap2)) zb TZ cs tb L (j + 1) rb mb nm S (.slice (some ⟨g2, 0, none⟩) (j + 1) cap2) := by
  have hr9 := ((h.r.alloc o1).alloc o2).drew.grown hg (own_ne_blk h.own h.r (by decide))
  have hzr : zb ≠ rb := h.z.ne h.r hne.2
  have htr : tb ≠ rb := by have := h.tlt; have := h.rge; omega
  have hmr : mb ≠ rb := h.set.ne_blk h.r
  have hset : some mb ≠ v.ownBlock := by
    rcases own_row h.own with ⟨h1, -, -⟩ | ⟨g, c, -, h1, -, hr⟩
    · rw [h1]; simp
    · rw [h1]; intro e; injection e with e; exact h.set.ne_row hr e
  refine ⟨(((h.z.alloc o1).alloc o2).drew.grown hg (own_ne_blk h.own h.z (Ne.symm hne.1))).far (p := ⟨rb, 3, none⟩) hzr _, (((h.src.alloc o1).alloc o2).drewN 1 |>.grown hg (own_lt_ne h.own h.tlt)).far (p := ⟨rb, 3, none⟩) htr _, ?_,
    ((((h.set.alloc o1).alloc o2).drewN 1).grown hg hset).far (p := ⟨rb, 3, none⟩) hmr _, ?_, h.rge, h.mge, h.tlt, ?_⟩
  · have := hr9.set 3 (.slice (some ⟨g2, 0, none⟩) (j + 1) cap2)
    simpa using this
  · rw [take_toks hj]
    exact own_far hown hr9 (by decide) 3 _
  · exact grown_setCell (grown_own (grown_drew (grown_alloc (grown_alloc h.grown o1) o2)) hg (own_base h.own)) (.inr h.rge) _
theorem Mid.later {w w5 w9 : World} {zb : Nat} {TZ : TypeId} {cs : Array Value} {tb : Nat} {L : List Tok} {j rb mb nm : Nat} {S : Int → Bool} {v : Value} (h : Mid w w5 zb TZ cs tb L j rb mb nm S v) (hb : Below w5.heap.size w5 w9) : Mid w w9 zb TZ cs tb L j rb mb nm S v :=
  ⟨h.z.later hb, h.src.later hb, h.r.later hb, h.set.later hb, own_later h.own hb, h.rge, h.mge, h.tlt, h.grown.trans (grown_of_below hb _)⟩
theorem Mid.lx {w w5 : World} {zb : Nat} {TZ : TypeId} {cs : Array Value} {tb : Nat} {L : List Tok} {rb mb nm g c n : Nat} {S : Int → Bool} (h : Mid w w5 zb TZ cs tb L L.length rb mb nm S (.slice (some ⟨g, 0, none⟩) n c)) (hn : n = L.length)
    (hw : ∀ t ∈ L, (Lit.int .i64 t.ty).wf = true) (hl : L.length ≤ 1048576) : Lx w5 rb g mb c nm L S 0 ((0 : Nat) : Int) 0 ∧ w.heap.size ≤ g ∧ L.length ≤ c ∧ c ≤ maxLen := by
  subst hn
  have hown := h.own
  rw [List.take_length] at hown
  have hr := Row.of_own hown
  exact ⟨⟨h.r, hr, h.set, hw, by omega⟩, own_base hown g rfl, own_cap hown⟩
/-- What Upgrade leaves when its lexer ends by EOF. -/
def UpPost (w : World) (zb : Nat) (TZ : TypeId) (Z : Nat → Array Value) (tb : Nat) (L : List Tok) (S : Int → Bool) (e : Ending) (w' : World) : Prop :=
  ∃ pb g c mb nm, e = .returned (.tuple #[.pointer (some ⟨pb, 0, none⟩), .nilIface]) ∧ Lx w' pb g mb c nm L S (PL.fresh S (types L)).raw (PL.fresh S (types L)).next (PL.fresh S (types L)).cur ∧ w.heap.size ≤ pb ∧ w.heap.size ≤ g ∧ w.heap.size ≤ mb ∧ (L.length ≤ c ∧ c ≤ maxLen) ∧
    Blk w' zb TZ (Z L.length) ∧ w.grownBy w' (some zb)
set_option maxHeartbeats 4000000 in
set_option maxRecDepth 100000 in
theorem up_any (T : TypeId) (F : Nat) (zb : Nat) (TZ : TypeId) (Z : Nat → Array Value) (tb : Nat) (L : List Tok) (A : Option Addr) (n c : Nat) (z : List Int) (w : World) (hs : Src T F zb TZ Z tb L L.length) (hv : Ints .i64 w A n z) (hn : n ≤ 65537)
    (hz : Blk w zb TZ (Z 0)) (hr : Row w tb 46 (toksCells L)) (hF : PL.First (types L) (L.length - 1)) (hL0 : 0 < L.length) (hL1 : L.length ≤ 1048576) (hw : ∀ t ∈ L, (Lit.int .i64 t.ty).wf = true) :
    Calls Try.prog 18 #[.iface T (.pointer (some ⟨zb, 0, none⟩)), .slice A n c] w (UpPost w zb TZ Z tb L (inS z)) := by
  obtain ⟨i0, hi, hz0, hz1, hz2⟩ := info_parts Go.Proofs.Ytomfonilbenhbaa.tokInfo
  have HS := Lib.hid hs
  have hm := hs.meth
  have hent := hs.enter
  have HW : Hid (∀ t ∈ L, (Lit.int .i64 t.ty).wf = true) := hw
  have HF := Lib.hid hF
  have HV := Lib.hid hv
  have HLN := Lib.hid hv.1
  have HZ := Lib.hid hz
  have HR := Lib.hid hr
  have hzlt := hz.lt
  have htlt := hr.lt
  have hmm := makeMap_hint (P := Try.prog) 50 42 4 Try.underlying50
  clear hs hF hv hw hz hr
  go_enter Try.func18, Try.ntmps18
  go_wp2_with fail
  go_loopg [18] n (fun k i wr => ∃ j : Nat, k = n - j ∧ j ≤ n ∧ i = .int .i64 j ∧ Blk wr (w.heap.size + 1) 52 #[.int .i64 0, .int .i64 0, .int .i64 0, .slice none 0 0, .map (some w.heap.size)] ∧
    BSet Try.prog 42 4 wr w.heap.size j (fun x => (z.take j).contains x) ∧ Below w.heap.size w wr)
  case atStart => exact ⟨0, rfl, Nat.zero_le _, rfl, Blk.new' _ _ _ (by simp), ((BSet.made w).congr (fun x => by simp)).alloc _, ((Below.refl _ _).alloc (Nat.le_refl _) _).alloc (by simp) _⟩
  case round =>
    obtain ⟨j, hk, hj, rfl, hblk, hset, hbel⟩ := hrel
    have KK := Lib.hid hk; clear hk
    by_cases hlt : j < n
    · rcases HV.out.split with h | ⟨b, off, rfl, hc⟩
      · exfalso; omega
      · obtain ⟨zj, hzj⟩ : ∃ t, t = z.getD j 0 := ⟨_, rfl⟩
        have hcj0 := hc.out j hlt
        have hcj := (hbel.cell (p := ⟨b, off + j, none⟩) (World.block_lt_of_cell? _ _ hcj0)).trans hcj0
        have hwf := HV.out.wf hlt
        rw [← hzj] at hcj hwf
        have HZJ := Lib.hid hzj
        have HWF := Lib.hid hwf
        have hi0 : (0 : Int) ≤ (j : Int) := by omega
        have hi1 : (j : Int) < (n : Int) := by omega
        have hQ := hblk.cell 4
        simp at hQ
        clear hcj0 hwf hc hzj
        go_wp2_with (at_mapUpdate; refine wpList_store_bset _ rfl _ _ _ 50 rfl 42 4 Try.underlying42 Try.underlying4 Try.underlying50 w.heap.size j _ rfl hset (by unfold maxLen; omega) zj rfl rfl HWF.out ?_; intro w2 hset2 hg2; have hb2 : Below w.heap.size w w2 := hbel.grown hg2 hbel.size (fun k hk => by injection hk with hk; omega); have hblk2 := hblk.grown hg2 (by intro e; injection e with e; exact hset.ne_blk hblk e.symm); clear hg2 hcj)
        go_roundg (n - (j + 1))
        case measure => rw [KK.out]; omega
        case rel => exact ⟨j + 1, rfl, by omega, by go_num, hblk2, hset2.congr (fun x => by rw [HZJ.out]; exact contains_snoc z j (by rw [HLN.out]; exact hlt) x), hb2⟩
    · obtain rfl : n = j := by omega
      have hdl : decide (n < n) = false := by simp
      have hset' : BSet Try.prog 42 4 wr w.heap.size n (inS z) := hset.congr (fun x => by rw [List.take_of_length_le (by rw [HLN.out]; omega)]; rfl)
      have hMid : Mid w wr zb TZ (Z 0) tb L 0 (w.heap.size + 1) w.heap.size n (inS z) (.slice none 0 0) :=
        ⟨HZ.out.below hbel hzlt, HR.out.of_block (hbel.block _ htlt), hblk, hset', World.ownsRow_nil _ _ _ _, by omega, Nat.le_refl _, htlt, ⟨hbel.os, hbel.tape, hbel.output, hbel.size, fun i hi _ => hbel.block i hi⟩⟩
      clear hset hset' hblk
      go_wp2_with fail
      clear hbel
      have hlm : ∀ m, m < L.length → (m : Int) < (L.length : Int) := fun m h => by omega
      go_loopg [10] L.length (fun k p wx => ∃ (j : Nat) (v : Value), k = L.length - j ∧ j < L.length ∧ p = p ∧ Mid w wx zb TZ (Z j) tb L j (w.heap.size + 1) w.heap.size n (inS z) v)
      case atStart => exact ⟨0, _, rfl, hL0, rfl, hMid⟩
      case round =>
        clear hMid hlm
        obtain ⟨j, v, hk, hj, -, hM⟩ := hrel
        have KK := Lib.hid hk; clear hk
        go_wp2_with fail
        refine (HS.out.next j _ hj hM.z hM.src).mono ?_
        rintro e w5 ⟨rfl, hz5, hg5⟩
        have hM5 := hM.next HS.out.ne hz5 hg5
        clear hM hz5 hg5
        obtain ⟨t, ht⟩ : ∃ t, t = L.getD j eofTok := ⟨_, rfl⟩
        rw [← ht]
        have HT := Lib.hid ht
        clear ht
        have hQ := hM5.r.cell 3
        simp at hQ
        have hf := hM5.r.frozen 3
        have a1 := fun o => cell_alloc hQ o
        have a2 := fun o o' => cell_alloc (cell_alloc hQ o) o'
        unfold Tok.agg
        go_wp2_with fail
        have hrs : w.heap.size + 1 < w5.heap.size := hM5.r.lt
        go_region_law (
          refine step_append_lies _ (by rfl) _ _ _ (by rfl) w.heap.size 46 i0 _ 6 64 Try.underlying27 hi hz0 hz1 hz2 rfl (by omega) v j (toksCells (L.take j)) (by rfl) (((hM5.own.alloc _).alloc _).drew) ⟨w5.heap.size + 1, 0, none⟩ 1 1 [.int .i64 t.ty, .string t.val, .string t.fn, .int .i64 t.off, .int .i64 t.line, .int .i64 t.col] (by rfl) (by rfl) news6 (by simp [Value.oneCell']) (by omega) (by unfold maxLen; omega) (by omega) (by simp; omega) (w5.heap.size + 1 + 1) (by simp) ?_
          intro g2 cap2 w9 hown9 hg9 hat hlt9
          have hr9 := ((hM5.r.alloc _).alloc _).drew.grown hg9 (own_ne_blk hM5.own hM5.r (by decide))
          have hQ9 := hr9.cell 3
          have fz9 := hr9.frozen 3
          simp at hQ9)
        all_goals
          have hcells : (L.getD j eofTok).cells = [.int .i64 t.ty, .string t.val, .string t.fn, .int .i64 t.off, .int .i64 t.line, .int .i64 t.col] := by rw [← HT.out]; rfl
          rw [← hcells] at hown9
          have hM9 := hM5.push HS.out.ne hg9 hj hown9
          have hL9 := ((Blk.new w5 46 #[.int .i64 t.ty, .string t.val, .string t.fn, .int .i64 t.off, .int .i64 t.line, .int .i64 t.col]).alloc _).drew.grown hg9 (own_ne_new hM5.own)
          have q0 := hL9.cell 0
          have q1 := hL9.cell 1
          have q2 := hL9.cell 2
          have q3 := hL9.cell 3
          have q4 := hL9.cell 4
          have q5 := hL9.cell 5
          simp at q0 q1 q2 q3 q4 q5
          clear hM5 hown9 hg9 hat hlt9 hr9 hQ9 fz9 hL9 hcells a1 a2 hQ hf
          by_cases hE' : t.ty = -1
          · have hjl : j + 1 = L.length := by
              rcases Nat.lt_or_ge j (L.length - 1) with g | g
              · have := HF.out.none j g
                rw [at_types, ← HT.out] at this
                exact absurd hE' this
              · omega
            have HJ := Lib.hid hjl
            have HE := Lib.hid hE'; clear hE' hjl
            go_wp2_with fail
            refine (eof_yes t _ HE).mono ?_
            rintro e w6 ⟨rfl, hb6⟩
            have hM6 := hM9.later hb6
            clear hM9 hb6 q0 q1 q2 q3 q4 q5
            rw [HJ.out] at hM6
            obtain ⟨hx, hgb, hcap⟩ := hM6.lx rfl HW.out hL1
            have HCAP := Lib.hid hcap
            clear hcap
            have hge := hM6.rge
            have HM := Lib.hid hM6
            clear hM6
            have hsl : PL.stop (inS z) (types L) 0 < L.length := Nat.lt_of_le_of_lt (HF.out.stop_le (Nat.zero_le _)) (by omega)
            go_wp2_with fail
            refine (adv_any _ (w.heap.size + 1) g2 w.heap.size cap2 n L (inS z) 0 0 0 hx hsl).mono ?_
            rintro e w7 ⟨rfl, hg7, hx7⟩
            go_wp2_with fail
            go_ret2
            refine ⟨w.heap.size + 1, g2, cap2, w.heap.size, n, rfl, hx7, by omega, hgb, Nat.le_refl _, HCAP.out, HM.out.z.grown hg7 (by intro e; injection e with e; exact HM.out.z.ne HM.out.r HS.out.ne.2 e), grown_own HM.out.grown hg7 (by intro k hk; injection hk with hk; omega)⟩
          · have hE2 : (t.ty == -1) = false := by simpa using hE'
            have hjl : j + 1 < L.length := by
              rcases Nat.lt_or_ge (j + 1) L.length with g | g
              · exact g
              · exfalso
                have := HF.out.eof
                rw [at_types, show L.length - 1 = j by omega, ← HT.out] at this
                exact hE' this
            have HE := Lib.hid hE'; clear hE' hE2
            go_wp2_with fail
            refine (eof_no t _ HE).mono ?_
            rintro e w6 ⟨rfl, hb6⟩
            have hM6 := hM9.later hb6
            clear hM9 hb6 q0 q1 q2 q3 q4 q5
            go_wp2_with fail
            go_roundg (L.length - (j + 1))
            case measure => rw [KK.out]; omega
            case rel => exact ⟨j + 1, _, rfl, hjl, trivial, hM6⟩
end Up
end Go.Proofs.Ytomfonilbenhbaa
