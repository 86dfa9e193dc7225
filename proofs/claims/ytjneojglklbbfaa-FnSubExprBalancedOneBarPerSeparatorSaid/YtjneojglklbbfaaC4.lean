/-
  What zzEbnfB1Build builds: a group that says its text. Conditions: sizes as stated.
-/
import Derived.Test.YtjneojglklbbfaaC3
import Derived.Deep.RegionLaw
import Derived.BigRegion
namespace Go.Proofs.Ytjneojglklbbfaa
open Go.RowKit
set_option linter.unusedSimpArgs false
set_option linter.unusedVariables false
theorem Row.ne_row {w : World} {g g' : Nat} {t t' : TypeId} {xs xs' : List Value} (h : Row w g t xs) (h' : Row w g' t' xs') (hne : t ≠ t') : g ≠ g' := by
  rintro rfl
  obtain ⟨cur, h, _⟩ := h
  obtain ⟨cur', h', _⟩ := h'
  rw [h] at h'
  injection h' with h'
  injection h' with _ ht
  exact hne ht
theorem own_row {w : World} {base size n : Nat} {t : TypeId} {v : Value} {xs : List Value} (h : w.ownsRow base t size v n xs) : (v.ownBlock = none ∧ v = .slice none 0 0 ∧ n = 0) ∨ ∃ g c, v = .slice (some ⟨g, 0, none⟩) n c ∧ v.ownBlock = some g ∧ base ≤ g ∧ Row w g t xs := by
  obtain ⟨hl, h'⟩ := h
  rcases h' with ⟨hv, hn⟩ | ⟨g, cap, cur, hv, hbg, hh, h1, h2, h3, h4⟩
  · subst hv; exact .inl ⟨rfl, rfl, hn⟩
  · subst hv; exact .inr ⟨g, cap, rfl, rfl, hbg, Row.of_own ⟨hl, .inr ⟨g, cap, cur, rfl, hbg, hh, h1, h2, h3, h4⟩⟩⟩
theorem own_ne_blk {w : World} {base size n b : Nat} {t t' : TypeId} {v : Value} {xs : List Value} {cs : Array Value} (h : w.ownsRow base t size v n xs) (hb : Blk w b t' cs) (hne : t ≠ t') : some b ≠ v.ownBlock := by
  rcases own_row h with ⟨h, -, -⟩ | ⟨g, c, _, h, _, hr⟩
  · rw [h]; simp
  · rw [h]; intro e; injection e with e; exact hr.ne_blk hb hne e.symm
theorem own_ne_row {w : World} {base size n b : Nat} {t t' : TypeId} {v : Value} {xs ys : List Value} (h : w.ownsRow base t size v n xs) (hb : Row w b t' ys) (hne : t ≠ t') : some b ≠ v.ownBlock := by
  rcases own_row h with ⟨h, -, -⟩ | ⟨g, c, _, h, _, hr⟩
  · rw [h]; simp
  · rw [h]; intro e; injection e with e; exact hr.ne_row hb hne e.symm
theorem own_ne_new {w : World} {base size n : Nat} {t : TypeId} {v : Value} {xs : List Value} (h : w.ownsRow base t size v n xs) : some w.heap.size ≠ v.ownBlock := by
  rcases own_row h with ⟨h, -, -⟩ | ⟨g, c, _, h, hg, hr⟩
  · rw [h]; simp
  · rw [h]; intro e; injection e with e; have := hr.lt; omega
theorem own_lt_ne {w : World} {base size n b : Nat} {t : TypeId} {v : Value} {xs : List Value} (h : w.ownsRow base t size v n xs) (hb : b < base) : some b ≠ v.ownBlock := by
  rcases own_row h with ⟨h, -, -⟩ | ⟨g, c, _, h, hg, hr⟩
  · rw [h]; simp
  · rw [h]; intro e; injection e with e; omega
theorem own_base {w : World} {base size n : Nat} {t : TypeId} {v : Value} {xs : List Value} (h : w.ownsRow base t size v n xs) : ∀ k, v.ownBlock = some k → base ≤ k := by
  intro k hk
  rcases own_row h with ⟨h, -, -⟩ | ⟨g, c, _, h, hg, hr⟩
  · rw [h] at hk; cases hk
  · rw [h] at hk; injection hk with hk; omega
theorem own_far {w : World} {base size n : Nat} {t t' : TypeId} {v : Value} {xs : List Value} {b : Nat} {cs : Array Value} (h : w.ownsRow base t size v n xs) (hb : Blk w b t' cs) (hne : t ≠ t') (i : Nat) (u : Value) : (w.setCell ⟨b, i, none⟩ u).ownsRow base t size v n xs := by
  obtain ⟨hl, h'⟩ := h
  refine ⟨hl, ?_⟩
  rcases h' with h' | ⟨g, cap, cur, hv, hbg, hh, h1, h2, h3, h4⟩
  · exact .inl h'
  · refine .inr ⟨g, cap, cur, hv, hbg, (Below.heap_setCell w ⟨b, i, none⟩ u g ?_).trans hh, h1, h2, h3, h4⟩
    rintro rfl
    unfold Blk at hb
    rw [hh] at hb
    injection hb with hb
    injection hb with _ ht
    exact hne ht
/-- The memory of a sequence of named terms. -/
def SeqMem (w : World) (b : Nat) (z : List ByteArray) : Prop :=
  ∃ (A : Option Addr) (c : Nat) (ts : List Nat), Blk w b 37 #[.slice A ts.length c] ∧ (ts = [] ∨ ∃ r, A = some ⟨r, 0, none⟩ ∧ Row w r 30 (ptrs ts)) ∧ ts.length = z.length ∧ ∀ i, i < z.length → Blk w (ts.getD i 0) 33 (nameCells (z.getD i ByteArray.empty))
theorem SeqMem.keep {w w' : World} {b : Nat} {z : List ByteArray} (h : SeqMem w b z) (hS : ∀ g cs, Blk w g 37 cs → Blk w' g 37 cs) (hT : ∀ g cs, Blk w g 33 cs → Blk w' g 33 cs)
    (hR : ∀ g xs, Row w g 30 xs → Row w' g 30 xs) : SeqMem w' b z := by
  obtain ⟨A, c, ts, h1, h2, h3, h4⟩ := h
  refine ⟨A, c, ts, hS _ _ h1, ?_, h3, fun i hi => hT _ _ (h4 i hi)⟩
  rcases h2 with h2 | ⟨r, h5, h6⟩
  · exact .inl h2
  · exact .inr ⟨r, h5, hR _ _ h6⟩
theorem SeqMem.says {w : World} {b : Nat} {z : List ByteArray} (h : SeqMem w b z) (hn : z.length ≤ 1048576) (hp : ∀ i, i < z.length → 0 < (z.getD i ByteArray.empty).size ∧ (z.getD i ByteArray.empty).size ≤ 1048576) (ht : PS.tot z ≤ 1073741824) : SaysG none w 26 b (nmText z) := by
  obtain ⟨A, c, ts, h1, h2, h3, h4⟩ := h
  refine seq_saysG (fun e => by cases e) h1 ?_ h3.symm (by omega) ?_ ht
  · rcases h2 with h2 | ⟨r, h5, h6⟩
    · exact .inl h2
    · exact .inr ⟨r, h5, (fun e => by cases e), h6⟩
  · have : TermsN 0 w z ts z.length := ⟨h3, fun i hi => ⟨Nat.zero_le _, h4 i hi⟩⟩
    exact this.says (fun g e => by cases e) hp
/-- The sequences that were built so far. -/
def SeqsM (w : World) (z : List (List ByteArray)) (bs : List Nat) (j : Nat) : Prop := bs.length = j ∧ ∀ i, i < j → SeqMem w (bs.getD i 0) (z.getD i [])
theorem SeqsM.snoc {w w' : World} {z : List (List ByteArray)} {bs : List Nat} {j b : Nat} (h : SeqsM w z bs j) (hk : ∀ b y, SeqMem w b y → SeqMem w' b y) (hb : SeqMem w' b (z.getD j [])) : SeqsM w' z (bs ++ [b]) (j + 1) := by
  refine ⟨by simp [h.1], fun i hi => ?_⟩
  rcases Nat.lt_or_ge i j with q | q
  · rw [getD_snoc_ltN _ _ (by rw [h.1]; exact q)]; exact hk _ _ (h.2 i q)
  · obtain rfl : i = j := by omega
    have := getD_snoc_atN bs b
    rw [h.1] at this
    rw [this]; exact hb
theorem cell_alloc {w : World} {g i : Nat} {v : Value} (h : w.cell? ⟨g, i, none⟩ = some v) (o : Obj) : (w.alloc o).cell? ⟨g, i, none⟩ = some v := by
  rw [← h]; exact World.cell?_of_block (Below.heap_alloc w o g (World.block_lt_of_cell? _ _ h))
theorem news2d {w : World} {o1 : Obj} {v : Value} {t : TypeId} : ∀ (j : Nat) (u : Value), [v][j]? = some u → ((w.alloc o1).alloc (.cells #[v] t)).drew.cell? ((⟨w.heap.size + 1, 0, none⟩ : Addr).add j) = some u := news2n
namespace fnSubExprBalancedOneBarPerSeparator
/-- The text that the group bears in front. -/
def front (la : Int) : ByteArray := if la = 0 then ⟨#[]⟩ else (⟨#[63]⟩ : ByteArray) ++ Utf8.encode la
/-- A new group. -/
def BuildPost (w : World) (n : Nat) (e : Ending) (w' : World) : Prop :=
  ∃ b t, e = .returned (.pointer (some ⟨b, 0, none⟩)) ∧ Hid (SaysG none w' 15 b t) ∧ Hid (GroupText t (n - 1)) ∧ t.size ≤ 8000000 ∧ Below w.heap.size w w'
set_option maxHeartbeats 4000000 in
set_option maxRecDepth 100000 in
theorem build_any (A : Option Addr) (n c : Nat) (z : List (List ByteArray)) (la : Int) (w : World) (hv : Alts Strs w A n z) (h1 : n ≤ 1048576) (hs : sumN z ≤ 1048576) (hpos : ∀ i, i < n → ∀ k, k < (z.getD i []).length → Pos ((z.getD i []).getD k ByteArray.empty))
    (hno : ∀ i, i < n → ∀ k, k < (z.getD i []).length → NoSp ((z.getD i []).getD k ByteArray.empty)) (hla : la ≠ 40 ∧ la ≠ 41 ∧ la ≠ 124) :
    Calls Try.prog 21 #[.slice A n c, .int .i32 la] w (BuildPost w n) := by
  obtain ⟨i0, hi, hz0, hz1, hz2⟩ := info_parts ptrInfoS
  obtain ⟨i1, hi1, hy0, hy1, hy2⟩ := info_parts ptrInfoT
  have HL := Lib.hid hv.1
  have HV := Lib.hid hv
  have HS := Lib.hid hs
  have HPO := Lib.hid hpos
  have HNO := Lib.hid hno
  have HLA := Lib.hid hla
  clear hv hs hpos hno hla
  go_enter Try.func21, Try.ntmps21
  go_wp2_with fail
  go_loopg [6] n (fun k i wr => ∃ (j : Nat) (bs : List Nat) (v : Value), k = n - j ∧ j ≤ n ∧ i = .int .i64 j ∧ Blk wr w.heap.size 41 #[v] ∧ wr.ownsRow w.heap.size 34 1 v j (ptrs bs) ∧ Hid (SeqsM wr z bs j) ∧ Below w.heap.size w wr)
  case atStart => exact ⟨0, [], .slice none 0 0, rfl, Nat.zero_le _, rfl, Blk.new w _ _, World.ownsRow_nil _ _ _ _, Lib.hid ⟨rfl, fun i hi => absurd hi (Nat.not_lt_zero _)⟩, (Below.refl _ _).alloc (Nat.le_refl _) _⟩
  case round =>
    obtain ⟨j, bs, v, hk, hj, rfl, hblk, hown, HTS, hbel⟩ := hrel
    have KK := Lib.hid hk; clear hk
    obtain ⟨wo, rfl⟩ : ∃ x, x = wr := ⟨_, rfl⟩
    by_cases hlt : j < n
    · rcases (HV.out.later strs_kept hbel).split with h | ⟨b, off, rfl, hc⟩
      · exfalso; omega
      obtain ⟨Ai, ni, ci, hcj, hsi⟩ := hc.out j hlt
      have hni : ni ≤ 1048576 := by have := sumN_get z j; rw [hsi.1] at this; have := HS.out; omega
      have HLI := Lib.hid hsi.1
      have HSI := Lib.hid hsi
      obtain ⟨zj, hzj⟩ : ∃ x, x = z.getD j [] := ⟨_, rfl⟩
      rw [← hzj] at HLI HSI
      have HZJ := Lib.hid hzj
      clear hc hsi hzj
      have hi0 : (0 : Int) ≤ (j : Int) := by omega
      have hi1' : (j : Int) < (n : Int) := by omega
      have hsz := hbel.size
      have hcO := hcj
      have hE := hblk.cell 0
      simp at hE
      go_wp2_with fail
      go_loopg [8] ni (fun k i wx => ∃ (l : Nat) (ts : List Nat) (v : Value), k = ni - l ∧ l ≤ ni ∧ i = .int .i64 l ∧ Blk wx wo.heap.size 37 #[v] ∧ wx.ownsRow wo.heap.size 30 1 v l (ptrs ts) ∧ Hid (TermsN wo.heap.size wx zj ts l) ∧ Below wo.heap.size wo wx)
      case atStart => exact ⟨0, [], .slice none 0 0, rfl, Nat.zero_le _, rfl, Blk.new wo _ _, World.ownsRow_nil _ _ _ _, Lib.hid ⟨rfl, fun i hi => absurd hi (Nat.not_lt_zero _)⟩, (Below.refl _ _).alloc (Nat.le_refl _) _⟩
      case round =>
        obtain ⟨l, ts, vT, hk, hl, rfl, hblkT, hownT, HTT, hbelI⟩ := hrel
        have KI := Lib.hid hk; clear hk
        have hcj' := (hbelI.cell (p := ⟨b, off + j, none⟩) (World.block_lt_of_cell? _ _ hcj)).trans hcj
        have hszI := hbelI.size
        by_cases hlt2 : l < ni
        · rcases (HSI.out.later hbelI).split with h | ⟨b2, off2, rfl, hc⟩
          · exfalso; omega
          have hcl := hc.out l hlt2
          obtain ⟨sl, hsl⟩ : ∃ x, x = zj.getD l ByteArray.empty := ⟨_, rfl⟩
          rw [← hsl] at hcl
          have HSL := Lib.hid hsl
          clear hc hsl
          have hl0 : (0 : Int) ≤ (l : Int) := by omega
          have hl1 : (l : Int) < (ni : Int) := by omega
          have hQ := hblkT.cell 0
          simp at hQ
          have a1 := fun o => cell_alloc hQ o
          have a2 := fun o => cell_alloc hcj' o
          have a3 := fun o => cell_alloc hcl o
          have a4 := fun o o' => cell_alloc (cell_alloc hQ o) o'
          go_wp2_with fail
          go_region_law (
            refine step_append_lies _ (by rfl) _ _ _ (by rfl) wo.heap.size 30 i1 _ 1 8 Try.underlying35 hi1 hy0 hy1 hy2 rfl (by omega) vT l (ptrs ts) (by rfl) (((hownT.alloc _).alloc _).drew) ⟨wr.heap.size + 1, 0, none⟩ 1 1 [.pointer (some ⟨wr.heap.size, 0, none⟩)] (by rfl) (by rfl) news2d (by simp [Value.oneCell']) (by omega) (by unfold maxLen; omega) (by omega) (by simp; omega) (wr.heap.size + 1 + 1) (by simp) ?_
            intro g2 cap2 w9 hown9 hg9 hat hlt9
            have hblk9 := ((hblkT.alloc _).alloc _).drew.grown hg9 (own_ne_blk hownT hblkT (by decide))
            have hQ9 := hblk9.cell 0
            have fz9 := hblk9.frozen 0
            simp at hQ9)
          all_goals
            have hsz2 : wo.heap.size ≤ (((wr.alloc (.cells (nameCells sl) 33)).alloc (.cells #[.pointer (some ⟨wr.heap.size, 0, none⟩)] 30)).drew).heap.size := by simp; omega
            have hb9 : Below wo.heap.size wo w9 := (((hbelI.alloc hszI _).alloc (by simp; omega) _).drew).grown hg9 hsz2 (own_base hownT)
            have HT9 : Hid (TermsN wo.heap.size (w9.setCell ⟨wo.heap.size, 0, none⟩ (.slice (some ⟨g2, 0, none⟩) (l + 1) cap2)) zj (ts ++ [wr.heap.size]) (l + 1)) := HTT.out.snoc
              (fun g' cs hb => (((hb.alloc _).alloc _).drew.grown hg9 (own_ne_blk hownT hb (by decide))).far (p := ⟨wo.heap.size, 0, none⟩) (hb.ne hblkT (by decide)) _) hszI
              (by rw [← HSL.out]; exact ((((Blk.new wr _ _).alloc _).drew.grown hg9 (own_ne_new hownT)).far (p := ⟨wo.heap.size, 0, none⟩) (by have := hblkT.lt; show wr.heap.size ≠ wo.heap.size; omega) _))
            have hset : Blk (w9.setCell ⟨wo.heap.size, 0, none⟩ (.slice (some ⟨g2, 0, none⟩) (l + 1) cap2)) wo.heap.size 37 #[.slice (some ⟨g2, 0, none⟩) (l + 1) cap2] := by
              have := hblk9.set 0 (.slice (some ⟨g2, 0, none⟩) (l + 1) cap2)
              simpa using this
            have hownN : (w9.setCell ⟨wo.heap.size, 0, none⟩ (.slice (some ⟨g2, 0, none⟩) (l + 1) cap2)).ownsRow wo.heap.size 30 1 (.slice (some ⟨g2, 0, none⟩) (l + 1) cap2) (l + 1) (ptrs (ts ++ [wr.heap.size])) := by
              unfold ptrs at hown9 ⊢
              rw [List.map_append]; exact own_far hown9 hblk9 (by decide) 0 _
            clear hown9 hg9 hat hlt9 hblk9 hownT hblkT hsz2
            go_wp2_with fail
            go_roundg (ni - (l + 1))
            case measure => rw [KI.out]; omega
            case rel => exact ⟨l + 1, ts ++ [wr.heap.size], _, rfl, by omega, by go_num, hset, hownN, HT9, hb9.setCell (p := ⟨wo.heap.size, 0, none⟩) (Nat.le_refl _) _⟩
        · obtain rfl : ni = l := by omega
          clear hlt2
          have htl := HTT.out.1
          have hSM : SeqMem wr wo.heap.size zj := by
            rcases own_row hownT with ⟨-, rfl, h0⟩ | ⟨g, c, rfl, -, -, hrow⟩
            · subst h0
              exact ⟨none, 0, ts, by rw [htl]; exact hblkT, .inl (List.eq_nil_of_length_eq_zero htl), by rw [htl, HLI.out], fun i hi => (HTT.out.2 i (by rw [HLI.out] at hi; exact hi)).2⟩
            · exact ⟨_, c, ts, by rw [htl]; exact hblkT, .inr ⟨g, rfl, hrow⟩, by rw [htl, HLI.out], fun i hi => (HTT.out.2 i (by rw [HLI.out] at hi; exact hi)).2⟩
          have hblkE := hblk.later hbelI
          have hE := hblkE.cell 0
          simp at hE
          have hownO := own_later hown hbelI
          have hbelO := below_next hbelI (w := w) (W := wo) hbel
          have hszO := hbelO.size
          clear hownT hblkT htl
          go_wp2_with (at_builtin; refine wpList_append_lies _ rfl _ _ 39 rfl w.heap.size 34 i0 _ 1 8 Try.underlying39 hi hz0 hz1 hz2 rfl (by decide) v j (ptrs bs) rfl (hownO.alloc _) ⟨wr.heap.size, 0, none⟩ 1 1 [.pointer (some ⟨wo.heap.size, 0, none⟩)] rfl rfl one_news (by intro u hu; simp at hu; subst hu; rfl) (by omega) (by unfold maxLen; omega) (by omega) (by simp; omega) (wr.heap.size + 1) (by simp) ?_; intro g2 cap2 w9 hown9 hg9 hat hlt9; have hblk9 := (hblkE.alloc _).grown hg9 (own_ne_blk hownO hblkE (by decide)); have hQ9 := hblk9.cell 0; have fz9 := hblk9.frozen 0; simp at hQ9)
          have hb9 : Below w.heap.size w w9 := (hbelO.alloc hszO _).grown hg9 (by simp; omega) (own_base hownO)
          have HT9 : Hid (SeqsM (w9.setCell ⟨w.heap.size, 0, none⟩ (.slice (some ⟨g2, 0, none⟩) (j + 1) cap2)) z (bs ++ [wo.heap.size]) (j + 1)) := by
            have key : ∀ b y, SeqMem wr b y → SeqMem (w9.setCell ⟨w.heap.size, 0, none⟩ (.slice (some ⟨g2, 0, none⟩) (j + 1) cap2)) b y := fun b y h => h.keep
              (fun g cs hb => ((hb.alloc _).grown hg9 (own_ne_blk hownO hb (by decide))).far (p := ⟨w.heap.size, 0, none⟩) (hb.ne hblkE (by decide)) _)
              (fun g cs hb => ((hb.alloc _).grown hg9 (own_ne_blk hownO hb (by decide))).far (p := ⟨w.heap.size, 0, none⟩) (hb.ne hblkE (by decide)) _)
              (fun g xs hb => ((hb.alloc _).grown hg9 (own_ne_row hownO hb (by decide))).far (p := ⟨w.heap.size, 0, none⟩) (hb.ne_blk hblkE (by decide)) _)
            exact HTS.out.snoc (fun b y h => key b y (h.keep (fun g cs hb => hb.later hbelI) (fun g cs hb => hb.later hbelI) (fun g xs hb => hb.later hbelI))) (by rw [← HZJ.out]; exact key _ _ hSM)
          have hset : Blk (w9.setCell ⟨w.heap.size, 0, none⟩ (.slice (some ⟨g2, 0, none⟩) (j + 1) cap2)) w.heap.size 41 #[.slice (some ⟨g2, 0, none⟩) (j + 1) cap2] := by
            have := hblk9.set 0 (.slice (some ⟨g2, 0, none⟩) (j + 1) cap2)
            simpa using this
          have hownN : (w9.setCell ⟨w.heap.size, 0, none⟩ (.slice (some ⟨g2, 0, none⟩) (j + 1) cap2)).ownsRow w.heap.size 34 1 (.slice (some ⟨g2, 0, none⟩) (j + 1) cap2) (j + 1) (ptrs (bs ++ [wo.heap.size])) := by
            unfold ptrs at hown9 ⊢
            rw [List.map_append]; exact own_far hown9 hblk9 (by decide) 0 _
          clear hown9 hg9 hat hlt9 hblk9 hown hownO hblk hblkE hSM
          go_wp2_with fail
          go_roundg (n - (j + 1))
          case measure => rw [KK.out]; omega
          case rel => exact ⟨j + 1, bs ++ [wo.heap.size], _, rfl, by omega, by go_num, hset, hownN, HT9, hb9.setCell (p := ⟨w.heap.size, 0, none⟩) (Nat.le_refl _) _⟩
    · obtain rfl : n = j := by omega
      clear hlt
      have hbl := HTS.out.1
      have hsz := hbel.size
      have htn := tot_names z
      rw [HL.out] at htn
      have hbs := body_cnt (z := z) (by
        intro a ha
        obtain ⟨i, hi, rfl⟩ := List.getElem_of_mem ha
        intro x hx
        obtain ⟨k, hk, rfl⟩ := List.getElem_of_mem hx
        have := HNO.out i (by rw [← HL.out]; exact hi) k (by rw [List.getD_eq_getElem?_getD, List.getElem?_eq_getElem hi]; exact hk)
        rw [List.getD_eq_getElem?_getD, List.getD_eq_getElem?_getD, List.getElem?_eq_getElem hi] at this
        simp only [Option.getD_some] at this
        rw [List.getElem?_eq_getElem hk] at this
        exact this)
      obtain ⟨hb1, hb2, hb3⟩ := hbs
      rw [HL.out] at hb3
      have hjs := PS.join_size (sep := ⟨#[32, 124, 32]⟩) (by decide) (z.map nmText)
      have hs1 := HS.out
      have HSQ : Hid (∀ W, W = wo.alloc (.cells #[.int .i32 la, .pointer (some ⟨w.heap.size, 0, none⟩)] 43) → ∃ t, SaysG none W 15 wo.heap.size t ∧ GroupText t (n - 1) ∧ t.size ≤ 8000000) := by
        intro W hW
        have hbW : Below wo.heap.size wo W := by rw [hW]; exact (Below.refl _ _).alloc (Nat.le_refl _) _
        have hblW : Blk W wo.heap.size 43 #[.int .i32 la, .pointer (some ⟨w.heap.size, 0, none⟩)] := by rw [hW]; exact Blk.new wo _ _
        have hE : SaysG none W 32 w.heap.size (PS.join ⟨#[32, 124, 32]⟩ (z.map nmText)) := by
          have hsays : ∀ i, i < bs.length → SaysG none W 26 (bs.getD i 0) ((z.map nmText).getD i ByteArray.empty) := by
            intro i hi
            rw [hbl] at hi
            rw [map_nm_at z i (by rw [HL.out]; exact hi)]
            have hsi := sumN_get z i
            refine (SeqMem.says (HTS.out.2 i hi) (by omega) (fun k hk => ⟨HPO.out i hi k hk, ?_⟩) (by rw [tot_sumB]; omega)).later hbW
            have := PS.sumB_get (z.getD i []) k hk
            omega
          rcases own_row hown with ⟨-, rfl, h0⟩ | ⟨g, c, rfl, -, -, hrow⟩
          · subst h0
            exact expr_saysG (fun e => by cases e) (A := none) (c := 0) (bs := bs) (by rw [hbl]; exact hblk.later hbW) (.inl (List.eq_nil_of_length_eq_zero hbl)) (by rw [List.length_map, HL.out, hbl]) (by omega) hsays (by omega)
          · exact expr_saysG (fun e => by cases e) (A := some ⟨g, 0, none⟩) (c := c) (bs := bs) (by rw [hbl]; exact hblk.later hbW) (.inr ⟨g, rfl, (fun e => by cases e), hrow.later hbW⟩) (by rw [List.length_map, HL.out, hbl]) (by omega) hsays (by omega)
        by_cases h0 : la = 0
        · subst h0
          refine ⟨_, sub_plainG (fun e => by cases e) hblW hE (by omega), group_plain hb1 hb2 hb3, ?_⟩
          simp only [PS.size_app]
          have e1 : ((⟨#[40]⟩ : ByteArray)).size = 1 := rfl
          have e2 : ((⟨#[41]⟩ : ByteArray)).size = 1 := rfl
          omega
        · obtain ⟨l1, l2, l3⟩ := HLA.out
          have hen := enc_size la
          refine ⟨_, sub_lookG (fun e => by cases e) hblW (by simpa using h0) (fun W => run_convert_int_string W _ _ _ la (by kernel_rfl) (by kernel_rfl)) (by omega) hE (by omega), group_look hb1 hb2 hb3 (cnt_enc (by decide) (by simpa using l1)) (cnt_enc (by decide) (by simpa using l2)) (cnt_enc (by decide) (by simpa using l3)), ?_⟩
          simp only [PS.size_app]
          have e1 : ((⟨#[40]⟩ : ByteArray)).size = 1 := rfl
          have e2 : ((⟨#[41]⟩ : ByteArray)).size = 1 := rfl
          have e3 : ((⟨#[63]⟩ : ByteArray)).size = 1 := rfl
          omega
      clear hown hblk hbl htn hb1 hb2 hb3 hjs hs1
      go_wp2_with fail
      go_ret
      obtain ⟨t, h1, h2, h3⟩ := HSQ.out _ rfl
      exact ⟨wo.heap.size, t, rfl, h1, h2, h3, hbel.alloc hsz _⟩
end fnSubExprBalancedOneBarPerSeparator
end Go.Proofs.Ytjneojglklbbfaa
