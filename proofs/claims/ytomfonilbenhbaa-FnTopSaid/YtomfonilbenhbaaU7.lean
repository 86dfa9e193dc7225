/-
  Upgrade over a lexer that fails at one call: what it reads, what it keeps. Conditions: the lexer's memory and the contract of its Next, as 'Src' and 'Fails' say.
-/
import Derived.Test.YtomfonilbenhbaaU6
namespace Go.Proofs.Ytomfonilbenhbaa
open Go.RowKit
set_option linter.unusedSimpArgs false
set_option linter.unusedVariables false
namespace Up
/-- Call m fails: an error of type TE, and the lexer's cells behind it. -/
def Fails (F zb : Nat) (TZ : TypeId) (Z : Nat → Array Value) (tb : Nat) (L : List Tok) (m : Nat) (TE : TypeId) (ZF : Value → Array Value) (EB : Nat → Prop) : Prop :=
  ∀ W : World, Blk W zb TZ (Z m) → Row W tb 46 (toksCells L) →
    Calls Try.prog F #[.pointer (some ⟨zb, 0, none⟩)] W fun e W' => ∃ eb : Nat, EB eb ∧ e = .returned (.tuple #[zeroAgg, .iface TE (.pointer (some ⟨eb, 0, none⟩))]) ∧ Blk W' zb TZ (ZF (.pointer (some ⟨eb, 0, none⟩))) ∧ W.grownBy W' (some zb)
/-- What Upgrade leaves when call m of its lexer fails. -/
def UpFailPost (w : World) (zb : Nat) (TZ : TypeId) (tb : Nat) (L : List Tok) (m : Nat) (TE : TypeId) (ZF : Value → Array Value) (EB : Nat → Prop) (e : Ending) (w' : World) : Prop :=
  ∃ pb eb : Nat, EB eb ∧ e = .returned (.tuple #[.pointer (some ⟨pb, 0, none⟩), .iface TE (.pointer (some ⟨eb, 0, none⟩))]) ∧ (∃ mb nm S u, Mid w w' zb TZ (ZF (.pointer (some ⟨eb, 0, none⟩))) tb L m pb mb nm S u)
set_option maxHeartbeats 4000000 in
set_option maxRecDepth 100000 in
theorem up_fail (T : TypeId) (F : Nat) (zb : Nat) (TZ : TypeId) (Z : Nat → Array Value) (tb : Nat) (L : List Tok) (A : Option Addr) (n c : Nat) (z : List Int) (w : World) (m : Nat) (TE : TypeId) (ZF : Value → Array Value) (EB : Nat → Prop) (hs : Src T F zb TZ Z tb L m) (hfl : Fails F zb TZ Z tb L m TE ZF EB) (hmL : m < L.length) (hv : Ints .i64 w A n z) (hn : n ≤ 65537)
    (hz : Blk w zb TZ (Z 0)) (hr : Row w tb 46 (toksCells L)) (hF : PL.First (types L) (L.length - 1)) (hL0 : 0 < L.length) (hL1 : L.length ≤ 1048576) (hw : ∀ t ∈ L, (Lit.int .i64 t.ty).wf = true) :
    Calls Try.prog 18 #[.iface T (.pointer (some ⟨zb, 0, none⟩)), .slice A n c] w (UpFailPost w zb TZ tb L m TE ZF EB) := by
  obtain ⟨i0, hi, hz0, hz1, hz2⟩ := info_parts Go.Proofs.Ytomfonilbenhbaa.tokInfo
  have HS := Lib.hid hs
  have HFL := Lib.hid hfl
  clear hfl
  have hm := hs.meth
  have hent := hs.enter
  have HW : Hid (∀ t ∈ L, (Lit.int .i64 t.ty).wf = true) := hw
  have HF := Lib.hid hF
  have HV := Lib.hid hv
  have HLN := Lib.hid hv.1
  have HZ := Lib.hid hz
  have HR := Lib.hid hr
  have hzlt := hz.lt
  have htlt := hr.lt
  have hmm := makeMap_hint (P := Try.prog) 50 42 4 Try.underlying50
  clear hs hF hv hw hz hr
  go_enter Try.func18, Try.ntmps18
  go_wp2_with fail
  go_loopg [18] n (fun k i wr => ∃ j : Nat, k = n - j ∧ j ≤ n ∧ i = .int .i64 j ∧ Blk wr (w.heap.size + 1) 52 #[.int .i64 0, .int .i64 0, .int .i64 0, .slice none 0 0, .map (some w.heap.size)] ∧
    BSet Try.prog 42 4 wr w.heap.size j (fun x => (z.take j).contains x) ∧ Below w.heap.size w wr)
  case atStart => exact ⟨0, rfl, Nat.zero_le _, rfl, Blk.new' _ _ _ (by simp), ((BSet.made w).congr (fun x => by simp)).alloc _, ((Below.refl _ _).alloc (Nat.le_refl _) _).alloc (by simp) _⟩
  case round =>
    obtain ⟨j, hk, hj, rfl, hblk, hset, hbel⟩ := hrel
    have KK := Lib.hid hk; clear hk
    by_cases hlt : j < n
    · rcases HV.out.split with h | ⟨b, off, rfl, hc⟩
      · exfalso; omega
      · obtain ⟨zj, hzj⟩ : ∃ t, t = z.getD j 0 := ⟨_, rfl⟩
        have hcj0 := hc.out j hlt
        have hcj := (hbel.cell (p := ⟨b, off + j, none⟩) (World.block_lt_of_cell? _ _ hcj0)).trans hcj0
        have hwf := HV.out.wf hlt
        rw [← hzj] at hcj hwf
        have HZJ := Lib.hid hzj
        have HWF := Lib.hid hwf
        have hi0 : (0 : Int) ≤ (j : Int) := by omega
        have hi1 : (j : Int) < (n : Int) := by omega
        have hQ := hblk.cell 4
        simp at hQ
        clear hcj0 hwf hc hzj
        go_wp2_with (at_mapUpdate; refine wpList_store_bset _ rfl _ _ _ 50 rfl 42 4 Try.underlying42 Try.underlying4 Try.underlying50 w.heap.size j _ rfl hset (by unfold maxLen; omega) zj rfl rfl HWF.out ?_; intro w2 hset2 hg2; have hb2 : Below w.heap.size w w2 := hbel.grown hg2 hbel.size (fun k hk => by injection hk with hk; omega); have hblk2 := hblk.grown hg2 (by intro e; injection e with e; exact hset.ne_blk hblk e.symm); clear hg2 hcj)
        go_roundg (n - (j + 1))
        case measure => rw [KK.out]; omega
        case rel => exact ⟨j + 1, rfl, by omega, by go_num, hblk2, hset2.congr (fun x => by rw [HZJ.out]; exact contains_snoc z j (by rw [HLN.out]; exact hlt) x), hb2⟩
    · obtain rfl : n = j := by omega
      have hdl : decide (n < n) = false := by simp
      have hset' : BSet Try.prog 42 4 wr w.heap.size n (inS z) := hset.congr (fun x => by rw [List.take_of_length_le (by rw [HLN.out]; omega)]; rfl)
      have hMid : Mid w wr zb TZ (Z 0) tb L 0 (w.heap.size + 1) w.heap.size n (inS z) (.slice none 0 0) :=
        ⟨HZ.out.below hbel hzlt, HR.out.of_block (hbel.block _ htlt), hblk, hset', World.ownsRow_nil _ _ _ _, by omega, Nat.le_refl _, htlt, ⟨hbel.os, hbel.tape, hbel.output, hbel.size, fun i hi _ => hbel.block i hi⟩⟩
      clear hset hset' hblk
      go_wp2_with fail
      clear hbel
      have hlm : ∀ m, m < L.length → (m : Int) < (L.length : Int) := fun m h => by omega
      go_loopg [10] L.length (fun k p wx => ∃ (j : Nat) (v : Value), k = L.length - j ∧ j ≤ m ∧ p = p ∧ Mid w wx zb TZ (Z j) tb L j (w.heap.size + 1) w.heap.size n (inS z) v)
      case atStart => exact ⟨0, _, rfl, Nat.zero_le _, rfl, hMid⟩
      case round =>
        clear hMid hlm
        obtain ⟨j, v, hk, hj, -, hM⟩ := hrel
        have KK := Lib.hid hk; clear hk
        by_cases hjm : j < m
        · go_wp2_with fail
          refine (HS.out.next j _ hjm hM.z hM.src).mono ?_
          rintro e w5 ⟨rfl, hz5, hg5⟩
          have hM5 := hM.next HS.out.ne hz5 hg5
          clear hM hz5 hg5
          obtain ⟨t, ht⟩ : ∃ t, t = L.getD j eofTok := ⟨_, rfl⟩
          rw [← ht]
          have HT := Lib.hid ht
          clear ht
          have hQ := hM5.r.cell 3
          simp at hQ
          have hf := hM5.r.frozen 3
          have a1 := fun o => cell_alloc hQ o
          have a2 := fun o o' => cell_alloc (cell_alloc hQ o) o'
          unfold Tok.agg
          go_wp2_with fail
          have hrs : w.heap.size + 1 < w5.heap.size := hM5.r.lt
          go_region_law (
            refine step_append_lies _ (by rfl) _ _ _ (by rfl) w.heap.size 46 i0 _ 6 64 Try.underlying27 hi hz0 hz1 hz2 rfl (by omega) v j (toksCells (L.take j)) (by rfl) (((hM5.own.alloc _).alloc _).drew) ⟨w5.heap.size + 1, 0, none⟩ 1 1 [.int .i64 t.ty, .string t.val, .string t.fn, .int .i64 t.off, .int .i64 t.line, .int .i64 t.col] (by rfl) (by rfl) news6 (by simp [Value.oneCell']) (by omega) (by unfold maxLen; omega) (by omega) (by simp; omega) (w5.heap.size + 1 + 1) (by simp) ?_
            intro g2 cap2 w9 hown9 hg9 hat hlt9
            have hr9 := ((hM5.r.alloc _).alloc _).drew.grown hg9 (own_ne_blk hM5.own hM5.r (by decide))
            have hQ9 := hr9.cell 3
            have fz9 := hr9.frozen 3
            simp at hQ9)
          all_goals
            have hcells : (L.getD j eofTok).cells = [.int .i64 t.ty, .string t.val, .string t.fn, .int .i64 t.off, .int .i64 t.line, .int .i64 t.col] := by rw [← HT.out]; rfl
            rw [← hcells] at hown9
            have hM9 := hM5.push HS.out.ne hg9 (by omega) hown9
            have hL9 := ((Blk.new w5 46 #[.int .i64 t.ty, .string t.val, .string t.fn, .int .i64 t.off, .int .i64 t.line, .int .i64 t.col]).alloc _).drew.grown hg9 (own_ne_new hM5.own)
            have q0 := hL9.cell 0
            have q1 := hL9.cell 1
            have q2 := hL9.cell 2
            have q3 := hL9.cell 3
            have q4 := hL9.cell 4
            have q5 := hL9.cell 5
            simp at q0 q1 q2 q3 q4 q5
            clear hM5 hown9 hg9 hat hlt9 hr9 hQ9 fz9 hL9 hcells a1 a2 hQ hf
            have hE' : t.ty ≠ -1 := by
              have := HF.out.none j (by omega)
              rw [at_types, ← HT.out] at this
              exact this
            have HE := Lib.hid hE'; clear hE'
            go_wp2_with fail
            refine (eof_no t _ HE).mono ?_
            rintro e w6 ⟨rfl, hb6⟩
            have hM6 := hM9.later hb6
            clear hM9 hb6 q0 q1 q2 q3 q4 q5
            go_wp2_with fail
            go_roundg (L.length - (j + 1))
            case measure => rw [KK.out]; omega
            case rel => exact ⟨j + 1, _, rfl, by omega, trivial, hM6⟩
        · obtain rfl : j = m := by omega
          go_wp2_with fail
          refine (HFL.out _ hM.z hM.src).mono ?_
          rintro e w5 ⟨v5, hEB, rfl, hz5, hg5⟩
          have hM5 := hM.next HS.out.ne hz5 hg5
          have HEB := Lib.hid hEB
          clear hEB
          have HM := Lib.hid ((hM5.later ((Below.refl _ _).alloc (Nat.le_refl _) (.cells #[.int .i64 0, .string ⟨#[]⟩, .string ⟨#[]⟩, .int .i64 0, .int .i64 0, .int .i64 0] 46))))
          clear hM hM5 hz5 hg5
          unfold zeroAgg
          go_wp2_with fail
          go_ret2
          exact ⟨_, v5, HEB.out, rfl, _, _, _, _, HM.out⟩
end Up
end Go.Proofs.Ytomfonilbenhbaa
