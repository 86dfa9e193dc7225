/-
  The walk of FnErrorfEscapedFormatRoundTrip. Conditions: F answers the tape.
-/
import Derived.Test.YtepncdnhcpencaaFmtI3
namespace Go.Proofs.YtepncdnhcpencaaFmt
open Go.RowKit Go.Kit Go.Extern.Stop Go.Stop Go.Extern
set_option linter.unusedSimpArgs false
set_option linter.unusedVariables false
namespace fnErrorfEscapedFormatRoundTrip
open fnErrorfPercentS (ba_ext ec pc)
set_option maxRecDepth 100000 in
theorem zz (a b : ByteArray) (o l c : Int) (w : World) (ha : a.size ≤ maxLen) (hb : b.size ≤ maxLen) : Calls Tryf.prog 9 #[.string a, .string b, .int .i64 o, .int .i64 l, .int .i64 c] w (BoolAny w) := by
  unfold maxLen at ha hb
  go_enter Tryf.func9, Tryf.ntmps9
  go_wp2_with fail
  all_goals (go_ret; exact ⟨_, rfl, rfl⟩)
set_option maxHeartbeats 2000000 in
set_option maxRecDepth 100000 in
theorem er0 (F : Interp) (fn f : ByteArray) (o l c : Int) (w : World) (hF : F.answers w.tape) (hp : FmtStop.printed? f 0 = some []) :
    Calls Tryf.prog 17 #[.agg #[.string fn, .int .i64 o, .int .i64 l, .int .i64 c], .string f, .slice none 0 0] w fun e w' =>
      ∃ p, e = .returned (.pointer (some ⟨p, 0, none⟩)) ∧ w.heap.size ≤ p ∧ Blk w' p 32 #[.string (told0 F f), .string fn, .int .i64 o, .int .i64 l, .int .i64 c] ∧ Below w.heap.size w w' := by
  have hF' := answers_open hF
  obtain ⟨w1, hw1⟩ : ∃ W, W = w.alloc (.cells #[.string fn, .int .i64 o, .int .i64 l, .int .i64 c] 24) := ⟨_, rfl⟩
  have hb1 : Below w.heap.size w w1 := by rw [hw1]; exact (Below.refl _ _).alloc (Nat.le_refl _) _
  have hk1 : Blk w1 w.heap.size 24 #[.string fn, .int .i64 o, .int .i64 l, .int .i64 c] := by rw [hw1]; exact Blk.new _ _ _
  have hf1 : ∀ i name reading k range, w1.tape i (.extern (word name reading k) range) = F name reading k := by rw [hb1.tape]; exact hF'
  have p0 := hk1.cell 0
  have p1 := hk1.cell 1
  have p2 := hk1.cell 2
  have p3 := hk1.cell 3
  simp at p0 p1 p2 p3
  go_enter Tryf.func17, Tryf.ntmps17
  go_wp2_with fail
  rw [← hw1]
  generalize hg : w.heap.size = g at hk1 p0 p1 p2 p3 hb1
  clear hw1 hF' hF hk1
  go_region_with (go_simp; apply rows_value nextTurns; case hr => (go_simp; exact ⟨rfl, rfl⟩))
  all_goals
    go_wp2_with fail
    go_ret
    subst hg
    exact ⟨_, rfl, hb1.size, Blk.new _ _ _, Below.alloc (Below.drew (Below.drew hb1)) hb1.size _⟩
set_option maxHeartbeats 2000000 in
set_option maxRecDepth 100000 in
theorem en_any (F : Interp) (fn s : ByteArray) (o l c : Int) (w : World) (hF : F.told.answers w.tape) (hs : s.size ≤ 524288) :
    Calls Tryf.prog 10 #[.agg #[.string fn, .int .i64 o, .int .i64 l, .int .i64 c], .string ⟨(esc s.data.toList).toArray⟩] w fun e w' =>
      ∃ p, e = .returned (.pointer (some ⟨p, 0, none⟩)) ∧ w.heap.size ≤ p ∧ Blk w' p 32 (ec s fn o l c) ∧ Below w.heap.size w w' := by
  have hb1 : Below w.heap.size w (w.alloc (.cells #[.string fn, .int .i64 o, .int .i64 l, .int .i64 c] 24)) := (Below.refl _ _).alloc (Nat.le_refl _) _
  have HE := Lib.hid (er0 F.told fn ⟨(esc s.data.toList).toArray⟩ o l c (w.alloc (.cells #[.string fn, .int .i64 o, .int .i64 l, .int .i64 c] 24)) (by rw [hb1.tape]; exact hF) (printed_esc s))
  rw [told0_is F s hs] at HE
  generalize (⟨(esc s.data.toList).toArray⟩ : ByteArray) = f at HE ⊢
  go_enter Tryf.func10, Tryf.ntmps10
  go_wp2_with fail
  refine HE.out.mono ?_
  rintro e w2 ⟨p, rfl, hp, hk, hb⟩
  have hle : w.heap.size ≤ p := Nat.le_trans hb1.size hp
  have hbw := below_next hb hb1
  go_wp2_with fail
  go_ret
  exact ⟨p, rfl, hle, hk, hbw⟩
theorem byteInfo : (Tryf.prog.info? 5).map (fun i => (i.zero, i.size, i.bytes)) = some (some (Value.int .u8 0), 1, 1) := by kernel_rfl
def bytesV (l : List UInt8) : List Value := l.map fun b => Value.int .u8 (b.toNat : Int)
theorem bytesV_app (l r : List UInt8) : bytesV l ++ bytesV r = bytesV (l ++ r) := by unfold bytesV; rw [List.map_append]
theorem one_news {w : World} {o : Value} {t : TypeId} : ∀ (j : Nat) (u : Value), [o][j]? = some u → (w.alloc (.cells #[o] t)).cell? ((⟨w.heap.size, 0, none⟩ : Addr).add j) = some u := by
  intro j u hj
  obtain ⟨rfl, rfl⟩ : j = 0 ∧ u = o := by
    match j, hj with
    | 0, hj => simp at hj; exact ⟨rfl, hj.symm⟩
  exact (cell_new' w _ t w.heap.size 0 rfl)
theorem take_snoc8 (s : ByteArray) (k : Nat) (h : k < s.size) : s.data.toList.take (k + 1) = s.data.toList.take k ++ [s[k]] := by
  rw [List.take_succ_eq_append_getElem (by simpa using h)]; rfl
set_option maxHeartbeats 2000000 in
set_option maxRecDepth 100000 in
theorem esc_any (s : ByteArray) (w : World) (hs : s.size ≤ 524288) : Calls Tryf.prog 11 #[.string s] w fun e w' => e = .returned (.string ⟨(esc s.data.toList).toArray⟩) ∧ Below w.heap.size w w' := by
  obtain ⟨i0, hi, hz0, hz1, hz2⟩ := info_parts byteInfo
  go_enter Tryf.func11, Tryf.ntmps11
  go_wp2_with (at_make; refine wpList_make_own _ rfl _ _ 37 rfl w.heap.size 5 i0 _ 1 Tryf.underlying37 hi hz0 hz1 _ _ _ (2 * s.size) rfl rfl (by simp) (by rw [hz2]; omega) (by unfold maxLen; omega) (Nat.le_refl _) ?_; intro w4 hown4 hg4)
  have hb4 : Below w.heap.size w w4 := (Below.refl _ _).grown hg4 (Nat.le_refl _) (fun _ h => by cases h)
  clear hg4
  go_loopg [3, 4] s.size (fun k v i wr => ∃ (j m : Nat) (L : List UInt8), k = s.size - j ∧ j ≤ s.size ∧ m ≤ 2 * j ∧ i = .int .i64 j ∧ v = .slice (some ⟨w.heap.size, 0, none⟩) m (2 * s.size) ∧ wr.ownsRow w.heap.size 5 1 (.slice (some ⟨w.heap.size, 0, none⟩) m (2 * s.size)) m (bytesV L) ∧ Hid (L = esc (s.data.toList.take j)) ∧ Below w.heap.size w wr)
  case atStart => exact ⟨0, 0, [], rfl, Nat.zero_le _, Nat.le_refl _, rfl, rfl, hown4, Lib.hid (by simp [esc]), hb4⟩
  case round =>
    obtain ⟨j, m, L, hk, hj, hm2, rfl, rfl, hown, HLL, hbel⟩ := hrel
    have KK := Lib.hid hk; clear hk hb4 hown4
    by_cases hlt : j < s.size
    · have h0 : (0 : Int) ≤ (j : Int) := by omega
      have h1 : (j : Int) < (s.size : Int) := by omega
      have hsz := hbel.size
      have hgl := (Row.of_own hown).lt
      have hsn := Lib.hid (esc_snoc (s.data.toList.take j) s[j])
      have htk := Lib.hid (take_snoc8 s j hlt)
      by_cases he : s[j] = 37
      · have ht : ((s[j].toNat : Int) == 37) = true := by rw [he]; rfl
        have HEE := Lib.hid he
        clear he
        go_wp2_with (first
          | (at_builtin; refine wpList_append_fits _ rfl _ _ 37 rfl w.heap.size 5 i0 1 Tryf.underlying37 hi hz1 w.heap.size m (2 * s.size) (bytesV L) rfl (hown.alloc _) ⟨wr.heap.size, 0, none⟩ 1 1 [.int .u8 37] rfl rfl one_news (by intro u hu; simp at hu; subst hu; rfl) (by omega) ?_; intro w6 hown6 hg6)
          | (at_builtin; refine wpList_append_fits _ rfl _ _ 37 rfl w.heap.size 5 i0 1 Tryf.underlying37 hi hz1 w.heap.size (m + 1) (2 * s.size) (bytesV L ++ [.int .u8 37]) rfl (hown6.alloc _) ⟨w6.heap.size, 0, none⟩ 1 1 [.int .u8 37] rfl rfl one_news (by intro u hu; simp at hu; subst hu; rfl) (by omega) ?_; intro w7 hown7 hg7))
        have hb6 : Below w.heap.size w w6 := (hbel.alloc hsz _).grown hg6 (by simp; omega) (fun k hk => by injection hk with hk; omega)
        have hsz6 := hb6.size
        have hb7 : Below w.heap.size w w7 := (hb6.alloc hsz6 _).grown hg7 (by simp; omega) (fun k hk => by injection hk with hk; omega)
        have hownN : w7.ownsRow w.heap.size 5 1 (.slice (some ⟨w.heap.size, 0, none⟩) (m + 1 + 1) (2 * s.size)) (m + 1 + 1) (bytesV (L ++ [37, 37])) := by
          have := hown7
          rwa [show bytesV L ++ [Value.int .u8 37] ++ [Value.int .u8 37] = bytesV (L ++ [37, 37]) from by simp [bytesV]] at this
        have HLN : Hid (L ++ [37, 37] = esc (s.data.toList.take (j + 1))) := Lib.hid (by rw [htk.out, hsn.out, HEE.out, HLL.out]; rfl)
        clear hown6 hg6 hown7 hg7 hown
        go_wp2_with fail
        go_roundg (s.size - (j + 1))
        case measure => rw [KK.out]; omega
        case rel => exact ⟨j + 1, m + 1 + 1, L ++ [37, 37], rfl, by omega, by omega, by go_num, rfl, hownN, HLN, hb7⟩
      · have ht : ((s[j].toNat : Int) == 37) = false := by
          rw [beq_eq_false_iff_ne]
          intro h
          exact he (UInt8.toNat_inj.1 (by simpa using (by omega : s[j].toNat = 37)))
        have HEE := Lib.hid he
        clear he
        go_wp2_with (at_builtin; refine wpList_append_fits _ rfl _ _ 37 rfl w.heap.size 5 i0 1 Tryf.underlying37 hi hz1 w.heap.size m (2 * s.size) (bytesV L) rfl (hown.alloc _) ⟨wr.heap.size, 0, none⟩ 1 1 [.int .u8 (s[j].toNat : Int)] rfl rfl one_news (by intro u hu; simp at hu; subst hu; rfl) (by omega) ?_; intro w6 hown6 hg6)
        have hb6 : Below w.heap.size w w6 := (hbel.alloc hsz _).grown hg6 (by simp; omega) (fun k hk => by injection hk with hk; omega)
        have hownN : w6.ownsRow w.heap.size 5 1 (.slice (some ⟨w.heap.size, 0, none⟩) (m + 1) (2 * s.size)) (m + 1) (bytesV (L ++ [s[j]])) := by
          have := hown6
          rwa [show bytesV L ++ [Value.int .u8 (s[j].toNat : Int)] = bytesV (L ++ [s[j]]) from by simp [bytesV]] at this
        have HLN : Hid (L ++ [s[j]] = esc (s.data.toList.take (j + 1))) := Lib.hid (by rw [htk.out, hsn.out, if_neg HEE.out, HLL.out])
        clear hown6 hg6 hown
        go_wp2_with fail
        go_roundg (s.size - (j + 1))
        case measure => rw [KK.out]; omega
        case rel => exact ⟨j + 1, m + 1, L ++ [s[j]], rfl, by omega, by omega, by go_num, rfl, hownN, HLN, hb6⟩
    · obtain rfl : s.size = j := by omega
      have hdl : decide (s.size < s.size) = false := by simp
      have hLs : L = esc s.data.toList := by have := HLL.out; rwa [List.take_of_length_le (by simp)] at this
      have hrow := Row.of_own hown
      have hml : m = L.length := by
        have := hown.1
        simpa [bytesV] using this.symm
      have hcv := run_convert_bytes_back (P := Tryf.prog) wr 37 9 5 ⟨w.heap.size, 0, none⟩ (2 * s.size) L Tryf.underlying37 Tryf.underlying5 Tryf.underlying9 (fun j hj => by
        have e : (⟨w.heap.size, 0, none⟩ : Addr).add j = ⟨w.heap.size, j, none⟩ := by unfold Addr.add; split <;> simp_all
        rw [e]
        exact hrow.cell (by simp [bytesV, List.getElem?_eq_getElem hj]))
      rw [← hml, hLs] at hcv
      clear hLs hml hown hrow HLL
      go_wp2_with fail
      go_ret
      exact ⟨rfl, hbel⟩
theorem heldI {w W : World} {p g : Nat} {s fn : ByteArray} {o l c : Int} (h : Blk W p 32 (ec s fn o l c)) (h' : Blk W g 24 (pc fn o l c)) (hb : Below g w W) :
    Blk W p 32 (ec s fn o l c) ∧ Blk W g 24 (pc fn o l c) ∧ Below g w W ∧ (W.cell? ⟨p, 0, none⟩ = some (.string s) ∧ W.cell? ⟨p, 1, none⟩ = some (.string fn) ∧ W.cell? ⟨p, 2, none⟩ = some (.int .i64 o) ∧ W.cell? ⟨p, 3, none⟩ = some (.int .i64 l) ∧ W.cell? ⟨p, 4, none⟩ = some (.int .i64 c)) ∧ W.cell? ⟨g, 0, none⟩ = some (.string fn) ∧ W.cell? ⟨g, 1, none⟩ = some (.int .i64 o) ∧ W.cell? ⟨g, 2, none⟩ = some (.int .i64 l) ∧ W.cell? ⟨g, 3, none⟩ = some (.int .i64 c) :=
  ⟨h, h', hb, ⟨h.cell 0, h.cell 1, h.cell 2, h.cell 3, h.cell 4⟩, h'.cell 0, h'.cell 1, h'.cell 2, h'.cell 3⟩
theorem heldP {w W : World} {g : Nat} {fn : ByteArray} {o l c : Int} (h' : Blk W g 24 (pc fn o l c)) (hb : Below g w W) :
    Blk W g 24 (pc fn o l c) ∧ Below g w W ∧ W.cell? ⟨g, 0, none⟩ = some (.string fn) ∧ W.cell? ⟨g, 1, none⟩ = some (.int .i64 o) ∧ W.cell? ⟨g, 2, none⟩ = some (.int .i64 l) ∧ W.cell? ⟨g, 3, none⟩ = some (.int .i64 c) :=
  ⟨h', hb, h'.cell 0, h'.cell 1, h'.cell 2, h'.cell 3⟩
set_option maxHeartbeats 4000000 in
set_option maxRecDepth 100000 in
theorem walk (F : Interp) (fn s : ByteArray) (o l c : Int) (w : World) (hF : F.told.answers w.tape) (hfn : fn.size ≤ maxLen) (hs : s.size ≤ maxLen) (ho : (Lit.int .i64 o).wf = true) (hl : (Lit.int .i64 l).wf = true) (hc : (Lit.int .i64 c).wf = true) :
    Calls Tryf.prog 4 #[.string fn, .string s, .int .i64 o, .int .i64 l, .int .i64 c] w fun e w' => e = .returned (.bool true) ∧ Below w.heap.size w w' := by
  have HZ := Lib.hid (zz fn s o l c w hfn hs)
  have HE := Lib.hid (fun (W : World) (h : Below w.heap.size w W) (hs : s.size ≤ 524288) => en_any F fn s o l c W (by rw [h.tape]; exact hF) hs)
  have HC := Lib.hid (fun (W : World) (hs : s.size ≤ 524288) => esc_any s W hs)
  unfold maxLen at hfn hs
  clear hF ho hl hc
  go_enter Tryf.func4, Tryf.ntmps4
  go_wp2_with fail
  refine HZ.out.mono ?_
  rintro e w' ⟨bz, rfl, rfl⟩
  go_wp2_with fail
  all_goals try (go_ret; exact ⟨rfl, Below.refl _ _⟩)
  have hb1 : Below w.heap.size w (w.alloc (.cells #[.string fn, .int .i64 o, .int .i64 l, .int .i64 c] 24)) := (Below.refl _ _).alloc (Nat.le_refl _) _
  have hk1 : Blk (w.alloc (.cells #[.string fn, .int .i64 o, .int .i64 l, .int .i64 c] 24)) w.heap.size 24 (pc fn o l c) := Blk.new _ _ _
  go_region_held3 (fun W => Blk W w.heap.size 24 (pc fn o l c) ∧ Below w.heap.size w W ∧ W.cell? ⟨w.heap.size, 0, none⟩ = some (.string fn) ∧ W.cell? ⟨w.heap.size, 1, none⟩ = some (.int .i64 o) ∧ W.cell? ⟨w.heap.size, 2, none⟩ = some (.int .i64 l) ∧ W.cell? ⟨w.heap.size, 3, none⟩ = some (.int .i64 c))
    (first | assumption | exact heldP hk1.drew hb1.drew | (go_split_ands; exact heldP (Blk.later (by assumption) hbl) (fnErrorfPercentS.below_next2 hbl (by assumption) (Nat.le_of_lt (Blk.lt (by assumption : Blk _ w.heap.size _ _))))))
    (first | (go_at_call 11; refine (HC.out _ (by omega)).mono ?_; rintro e W ⟨rfl, hbl⟩) | (go_at_call 10; refine (HE.out _ (by go_split_ands; assumption) (by omega)).mono ?_; rintro e W ⟨p, rfl, hp, hke, hbl⟩))
  obtain ⟨hkg, hbe, -⟩ := ‹Blk W w.heap.size 24 _ ∧ _›
  obtain ⟨-, -, -, ⟨p0, p1, p2, p3, p4⟩, g0, g1, g2, g3⟩ := heldI hke hkg hbe
  clear hke hkg HE HC HZ hk1 hb1
  go_wp2_with fail
  go_quiet (fail)
  go_wp2_with fail
  go_ret
  exact ⟨rfl, below_drewN hbe _⟩
end fnErrorfEscapedFormatRoundTrip
end Go.Proofs.YtepncdnhcpencaaFmt
