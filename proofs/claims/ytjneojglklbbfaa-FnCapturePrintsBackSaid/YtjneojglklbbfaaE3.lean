/-
  The walk of FnCapturePrintsBack: the marker that was captured is printed back. Conditions: none beyond the statement's own.
-/
import Derived.Test.YtjneojglklbbfaaEB
import Derived.Test.YtjneojglklbbfaaClone
namespace Go.Proofs.Ytjneojglklbbfaa
open Go.RowKit
set_option linter.unusedSimpArgs false
set_option linter.unusedVariables false
namespace fnCapturePrintsBack
set_option maxRecDepth 100000 in
theorem zz (A1 : Option Addr) (n1 c1 : Nat) (z1 : List ByteArray) (w : World) (hv : Strs w A1 n1 z1) : Calls Try.prog 10 #[.slice A1 n1 c1] w (BoolAny w) := by
  have h1 := hv.2.1
  unfold maxLen at h1
  rcases hv.split with h0 | ⟨b, off, rfl, hc⟩
  all_goals
    go_enter Try.func10, Try.ntmps10
    go_wp2_with fail
    all_goals try (go_ret; exact ⟨_, rfl, rfl⟩)
    go_loopg [2, 3, 4] n1 (fun k u z i wr => ∃ j m : Nat, k = n1 - j ∧ j ≤ n1 ∧ m ≤ 1048576 ∧ z = .int .i64 m ∧ i = .int .i64 j ∧ wr = w ∧ u = .bool false)
    case atStart => exact ⟨0, n1, rfl, Nat.zero_le _, by omega, rfl, rfl, rfl, rfl⟩
    case round =>
      obtain ⟨j, m, hk, hj, hm, rfl, rfl, rfl, rfl⟩ := hrel
      have KK := Lib.hid hk; clear hk
      by_cases hlt : j < n1
      · first
          | (exfalso; omega)
          | (have hcj := hc.out j hlt
             have hsj := hv.size j
             generalize z1.getD j ByteArray.empty = sj at hcj hsj
             go_wp2_with fail
             all_goals first
               | (go_ret; exact ⟨_, rfl, rfl⟩)
               | (go_roundg (n1 - (j + 1))
                  case measure => rw [KK.out]; omega
                  case rel => exact ⟨j + 1, m + sj.size, rfl, by omega, by omega, by go_num, by go_num, rfl, rfl⟩))
      · go_wp2_with fail
        all_goals (go_ret; exact ⟨_, rfl, rfl⟩)
set_option maxRecDepth 100000 in
theorem fit (A1 : Option Addr) (n1 c1 : Nat) (z1 : List ByteArray) (w : World) (hv : Strs w A1 n1 z1) (h1 : n1 ≤ 65536) : Calls Try.prog 11 #[.slice A1 n1 c1] w (BoolAny w) := by
  rcases hv.split with h0 | ⟨b, off, rfl, hc⟩
  all_goals
    go_enter Try.func11, Try.ntmps11
    go_wp2_with fail
    go_loopg [2, 3, 4] n1 (fun k u z i wr => ∃ (j : Nat) (m : Int), k = n1 - j ∧ j ≤ n1 ∧ z = .int .i64 m ∧ i = .int .i64 j ∧ wr = w ∧ u = .bool false)
    case atStart => exact ⟨0, 0, rfl, Nat.zero_le _, rfl, rfl, rfl, rfl⟩
    case round =>
      obtain ⟨j, m, hk, hj, rfl, rfl, rfl, rfl⟩ := hrel
      have KK := Lib.hid hk; clear hk
      by_cases hlt : j < n1
      · first
          | (exfalso; omega)
          | (have hcj := hc.out j hlt
             have hsj := hv.size j
             generalize z1.getD j ByteArray.empty = sj at hcj hsj
             go_wp2_with fail
             all_goals first
               | (go_ret; exact ⟨_, rfl, rfl⟩)
               | (go_roundg (n1 - (j + 1))
                  case measure => rw [KK.out]; omega
                  case rel => exact ⟨j + 1, _, rfl, by omega, rfl, by go_num, rfl, rfl⟩))
      · go_wp2_with fail
        all_goals (go_ret; exact ⟨_, rfl, rfl⟩)
theorem isA (x : Int) (w : World) : Calls Try.prog 12 #[.int .u8 x] w fun e w' => e = .returned (.bool (x == 33 || x == 61)) ∧ w = w' := by
  go_enter Try.func12, Try.ntmps12
  go_wp2_with fail
  all_goals (go_ret; exact ⟨by simp [*], rfl⟩)
set_option maxHeartbeats 1000000 in
set_option maxRecDepth 100000 in
theorem copy (A : Option Addr) (n c : Nat) (z : List ByteArray) (w : World) (hv : Strs w A n z) (h1 : n ≤ 65536) : Calls Try.prog 13 #[.slice A n c] w (ClonePost w n z) := by
  obtain ⟨i0, hi, hz0, hz1, hz2⟩ := info_parts strInfo
  have HL := Lib.hid hv.1
  have HV := Lib.hid hv
  cases A with
  | none =>
    obtain rfl : n = 0 := by
      rcases hv.2.2.2 with h | ⟨b, off, h, _⟩
      · exact h.1
      · cases h
    have hz : z = [] := List.eq_nil_of_length_eq_zero hv.1
    clear hv
    have hq := fun W => Lib.run_eql_slice_nil (P := Try.prog) W 22 9 none 0 c 0 0 Try.underlying22
    simp only [Option.isNone_none] at hq
    go_enter Try.func13, Try.ntmps13
    go_wp2_with fail
    go_ret
    exact ⟨none, 0, rfl, ⟨HL.out, Nat.zero_le _, by rw [hz]; simp, .inl ⟨rfl, hz⟩⟩, Below.refl _ _⟩
  | some a =>
    have hq := fun W => Lib.run_eql_slice_nil (P := Try.prog) W 22 9 (some a) n c 0 0 Try.underlying22
    simp only [Option.isNone_some] at hq
    have hsp : n ≤ 0 ∨ ∃ b off, a = ⟨b, off, none⟩ ∧ Hid (∀ i, i < n → w.cell? ⟨b, off + i, none⟩ = some (.string (z.getD i ByteArray.empty))) := by
      rcases hv.split with h | ⟨b, off, h, hc⟩
      · exact .inl h
      · exact .inr ⟨b, off, by injection h, hc⟩
    clear hv
    rcases hsp with h0 | ⟨b0, o0, rfl, hc0⟩
    all_goals
      go_enter Try.func13, Try.ntmps13
      go_wp2_with (at_make; refine wpList_make_full _ rfl _ _ 22 rfl w.heap.size 9 i0 _ 1 Try.underlying22 hi hz0 hz1 _ _ _ _ n rfl rfl rfl rfl (by rw [hz2]; omega) (by unfold maxLen; omega) (Nat.le_refl _) ?_; intro w1 hown1 hg1)
      have e1 : (madeCells (Value.cells (Value.string ByteArray.empty)) (n * 1)).toList = cloneMid z 0 := by
        rw [Nat.mul_one]
        unfold cloneMid
        rw [HL.out]
        rw [List.take_zero, List.map_nil, List.nil_append, Nat.sub_zero]
        exact toList_madeCells_one (.string ByteArray.empty) n
      rw [e1] at hown1
      have hrow1 := Row.of_own hown1
      have hb1 : Below w.heap.size w w1 := (Below.refl _ _).grown hg1 (Nat.le_refl _) (fun _ h => by cases h)
      clear hown1 hg1 e1 hq
      go_loopg [4] n (fun k i wr => ∃ j : Nat, k = n - j ∧ j ≤ n ∧ i = .int .i64 j ∧ Row wr w.heap.size 9 (cloneMid z j) ∧ Below w.heap.size w wr)
      case atStart => exact ⟨0, rfl, Nat.zero_le _, rfl, hrow1, hb1⟩
      case round =>
        obtain ⟨j, hk, hj, rfl, hrow, hbel⟩ := hrel
        have KK := Lib.hid hk; clear hk
        by_cases hlt : j < n
        · first
            | (exfalso; omega)
            | (have hcj := (hbel.cell (p := ⟨b0, o0 + j, none⟩) (World.block_lt_of_cell? _ _ (hc0.out j hlt))).trans (hc0.out j hlt)
               obtain ⟨old, hold⟩ := cloneMid_at z j j (by rw [HL.out]; exact hlt)
               have hco := hrow.cell hold
               have fz := hrow.frozen j
               have hset := hrow.set j (.string (z.getD j ByteArray.empty))
               rw [cloneMid_set z j (by rw [HL.out]; exact hlt)] at hset
               generalize z.getD j ByteArray.empty = sj at hcj hset
               clear hold
               go_wp2_with fail
               go_roundg (n - (j + 1))
               case measure => rw [KK.out]; omega
               case rel => exact ⟨j + 1, rfl, by omega, by go_num, hset, hbel.setCell (p := ⟨w.heap.size, j, none⟩) (Nat.le_refl _) _⟩)
        · obtain rfl : n = j := by omega
          go_wp2_with fail
          go_ret
          refine ⟨some ⟨w.heap.size, 0, none⟩, n, rfl, ⟨HL.out, HV.out.2.1, HV.out.2.2.1, ?_⟩, hbel⟩
          rcases Nat.eq_zero_or_pos n with h | h
          · exact .inl ⟨h, List.eq_nil_of_length_eq_zero (by rw [HL.out]; exact h)⟩
          · refine .inr ⟨w.heap.size, 0, rfl, hrow.lt, fun i hi => ?_⟩
            rw [Nat.zero_add]
            refine hrow.cell ?_
            have := cloneMid_full z i (by rw [HL.out]; exact hi)
            rw [HL.out] at this
            exact this
/-- Capture writes the marker into the assertion. -/
theorem cap (lb b o n c : Nat) (z : ByteArray) (x : Nat) (old : Int) (w : World) (hn : 0 < n) (hz : 0 < z.size) (hx : Hid (z[0].toNat = x)) (hxx : x = 33 ∨ x = 61) (hc : w.cell? ⟨b, o, none⟩ = some (.string z)) (hb : Blk w lb 26 #[.int .i32 old]) :
    Calls Try.prog 14 #[.pointer (some ⟨lb, 0, none⟩), .slice (some ⟨b, o, none⟩) n c] w fun e w' => e = .returned .nilIface ∧ Blk w' lb 26 #[.int .i32 (x : Int)] ∧ Below lb w w' := by
  have hset := hb.set 0 (.int .i32 (x : Int))
  have hbs : Below lb w (w.setCell ⟨lb, 0, none⟩ (.int .i32 (x : Int))) := (Below.refl _ _).setCell (p := ⟨lb, 0, none⟩) (Nat.le_refl _) _
  have hl := hb.cell 0
  simp at hl
  have hf := hb.frozen 0
  have hi0 : (0 : Int) < (n : Int) := by omega
  rcases hxx with rfl | rfl
  all_goals
    have hx' := hx.out
    go_enter Try.func14, Try.ntmps14
    go_wp2_with fail
    go_ret
    exact ⟨rfl, hset, hbs⟩
theorem cell_far {W W' : World} (hb : Below W.heap.size W W') {p : Addr} {v : Value} (h : W.cell? p = some v) : W'.cell? p = some v := (hb.cell (World.block_lt_of_cell? _ _ h)).trans h
theorem al5 (W : World) (o1 o2 o3 o4 o5 : Obj) : Below W.heap.size W (((((W.alloc o1).alloc o2).alloc o3).alloc o4).alloc o5) :=
  (((((Below.refl _ _).alloc (Nat.le_refl _) _).alloc (by simp) _).alloc (by simp; omega) _).alloc (by simp; omega) _).alloc (by simp; omega) _
theorem new_at {w : World} {b : Nat} {t : TypeId} {cs : Array Value} (hb : b = w.heap.size) : Blk (w.alloc (.cells cs t)) b t cs := by subst hb; exact Blk.new w t cs
theorem row_of {w : World} {b : Nat} {t : TypeId} {cs : Array Value} {xs : List Value} (h : Blk w b t cs) (hx : cs.toList = xs) : Row w b t xs :=
  ⟨cs, h, fun j u hu => by rw [← hx] at hu; simpa using hu⟩
theorem one_says {w : World} {f b b0 : Nat} {s : ByteArray} (h : Says w f b0 s) : ∀ i, i < [b0].length → Says w f ([b0].getD i 0) ([s].getD i ByteArray.empty) := by
  intro i hi
  obtain rfl : i = 0 := by simp at hi; omega
  exact h
theorem tree_says (x : Int) (c : ByteArray) (hx : (x != 0) = true) (hc : ∀ W, (convert 26 9 (.int .i32 x)).run Try.prog W = Result.ok (.string c) W) (h2 : c.size ≤ 16) (s : ByteArray) (hs : ((⟨#[40]⟩ : ByteArray) ++ ((⟨#[63]⟩ : ByteArray) ++ c) ++ (((⟨#[120]⟩ : ByteArray) ++ ⟨#[]⟩) ++ ⟨#[41]⟩)) = s) (w : World) :
    Says ((((((w.alloc (.cells #[.bool false, .string ⟨#[120]⟩, .string ⟨#[]⟩, .string ⟨#[]⟩, .pointer none, .string ⟨#[]⟩] 33)).alloc (.cells #[.pointer (some ⟨w.heap.size, 0, none⟩)] 30)).alloc
      (.cells #[.slice (some ⟨w.heap.size + 1, 0, none⟩) 1 1] 37)).alloc (.cells #[.pointer (some ⟨w.heap.size + 1 + 1, 0, none⟩)] 34)).alloc
      (.cells #[.slice (some ⟨w.heap.size + 1 + 1 + 1, 0, none⟩) 1 1] 41)).alloc (.cells #[.int .i32 x, .pointer (some ⟨w.heap.size + 1 + 1 + 1 + 1, 0, none⟩)] 43))
      15 (w.heap.size + 1 + 1 + 1 + 1 + 1) s := by
  subst hs
  have al : ∀ (W : World) (o : Obj), Below W.heap.size W (W.alloc o) := fun W o => (Below.refl _ _).alloc (Nat.le_refl _) _
  generalize h1 : w.alloc (.cells #[.bool false, .string ⟨#[120]⟩, .string ⟨#[]⟩, .string ⟨#[]⟩, .pointer none, .string ⟨#[]⟩] 33) = w1
  have s1 : w1.heap.size = w.heap.size + 1 := by rw [← h1]; simp
  have t1 : Says w1 38 w.heap.size ((⟨#[120]⟩ : ByteArray) ++ ⟨#[]⟩) := term_name (by rw [← h1]; exact Blk.new w _ _) (by decide +kernel) (by decide) (by decide)
  generalize h2' : w1.alloc (.cells #[.pointer (some ⟨w.heap.size, 0, none⟩)] 30) = w2
  have s2 : w2.heap.size = w.heap.size + 1 + 1 := by rw [← h2']; simp [s1]
  have r2 : Row w2 (w.heap.size + 1) 30 (ptrs [w.heap.size]) := row_of (by rw [← h2']; exact new_at s1.symm) rfl
  have t2 : Says w2 38 w.heap.size ((⟨#[120]⟩ : ByteArray) ++ ⟨#[]⟩) := t1.later (by rw [← h2']; exact al _ _)
  generalize h3 : w2.alloc (.cells #[.slice (some ⟨w.heap.size + 1, 0, none⟩) 1 1] 37) = w3
  have s3 : w3.heap.size = w.heap.size + 1 + 1 + 1 := by rw [← h3]; simp [s2]
  have t3 : Says w3 26 (w.heap.size + 1 + 1) ((⟨#[120]⟩ : ByteArray) ++ ⟨#[]⟩) :=
    seq_says (bs := [w.heap.size]) (ss := [(⟨#[120]⟩ : ByteArray) ++ ⟨#[]⟩]) (by rw [← h3]; exact new_at s2.symm) (.inr ⟨_, rfl, by rw [← h3]; exact r2.alloc _⟩) rfl (by simp)
      (one_says (b := 0) (t2.later (by rw [← h3]; exact al _ _))) (by decide)
  generalize h4 : w3.alloc (.cells #[.pointer (some ⟨w.heap.size + 1 + 1, 0, none⟩)] 34) = w4
  have s4 : w4.heap.size = w.heap.size + 1 + 1 + 1 + 1 := by rw [← h4]; simp [s3]
  have r4 : Row w4 (w.heap.size + 1 + 1 + 1) 34 (ptrs [w.heap.size + 1 + 1]) := row_of (by rw [← h4]; exact new_at s3.symm) rfl
  have t4 : Says w4 26 (w.heap.size + 1 + 1) ((⟨#[120]⟩ : ByteArray) ++ ⟨#[]⟩) := t3.later (by rw [← h4]; exact al _ _)
  generalize h5 : w4.alloc (.cells #[.slice (some ⟨w.heap.size + 1 + 1 + 1, 0, none⟩) 1 1] 41) = w5
  have s5 : w5.heap.size = w.heap.size + 1 + 1 + 1 + 1 + 1 := by rw [← h5]; simp [s4]
  have t5 : Says w5 32 (w.heap.size + 1 + 1 + 1 + 1) ((⟨#[120]⟩ : ByteArray) ++ ⟨#[]⟩) :=
    expr_says (bs := [w.heap.size + 1 + 1]) (ss := [(⟨#[120]⟩ : ByteArray) ++ ⟨#[]⟩]) (by rw [← h5]; exact new_at s4.symm) (.inr ⟨_, rfl, by rw [← h5]; exact r4.alloc _⟩) rfl (by simp)
      (one_says (b := 0) (t4.later (by rw [← h5]; exact al _ _))) (by decide)
  exact sub_look (e := w.heap.size + 1 + 1 + 1 + 1) (la := x) (new_at s5.symm) hx hc h2 (t5.later (al _ _)) (by decide)
set_option maxHeartbeats 2000000 in
set_option maxRecDepth 100000 in
theorem walk (A0 : Option Addr) (n0 c0 : Nat) (z0 : List ByteArray) (w : World) (hv : Strs w A0 n0 z0) :
    Calls Try.prog 3 #[.slice A0 n0 c0] w fun e w' => e = .returned (.bool true) ∧ Below w.heap.size w w' := by
  have hm0 := hv.2.1
  have HV := Lib.hid hv
  have hsp := hv.split
  have hsz := hv.size 0
  clear hv
  by_cases hs0 : 0 < n0 ∧ n0 ≤ 65536
  case neg =>
    go_enter Try.func3, Try.ntmps3
    go_wp2_with fail
    refine (zz A0 n0 c0 z0 _ HV.out).mono ?_
    rintro e w1 ⟨b, rfl, rfl⟩
    unfold maxLen at hm0
    cases b
    · go_wp2_with fail
      go_ret
      exact ⟨rfl, Below.refl _ _⟩
    · by_cases h6 : n0 ≤ 65536
      · obtain rfl : n0 = 0 := by omega
        go_wp2_with fail
        refine (fit A0 0 c0 z0 _ HV.out (by omega)).mono ?_
        rintro e w1 ⟨b, rfl, rfl⟩
        cases b
        · go_wp2_with fail
          go_ret
          exact ⟨rfl, Below.refl _ _⟩
        · go_wp2_with fail
          go_ret
          exact ⟨rfl, Below.refl _ _⟩
      · go_wp2_with fail
        go_ret
        exact ⟨rfl, Below.refl _ _⟩
  obtain ⟨hs1, hs2⟩ := hs0
  rcases hsp with h | ⟨b0, o0, rfl, hc0⟩
  · exfalso; omega
  have hc := hc0.out 0 hs1
  clear hc0
  rw [Nat.add_zero] at hc
  generalize hzd : z0.getD 0 ByteArray.empty = z at hc hsz
  have HZ := Lib.hid hzd; clear hzd
  go_enter Try.func3, Try.ntmps3
  go_wp2_with fail
  refine (zz _ n0 c0 z0 _ HV.out).mono ?_
  rintro e w1 ⟨b, rfl, rfl⟩
  unfold maxLen at hm0
  cases b
  · go_wp2_with fail
    go_ret
    exact ⟨rfl, Below.refl _ _⟩
  go_wp2_with fail
  refine (fit _ n0 c0 z0 _ HV.out hs2).mono ?_
  rintro e w1 ⟨b, rfl, rfl⟩
  cases b
  · go_wp2_with fail
    go_ret
    exact ⟨rfl, Below.refl _ _⟩
  by_cases hz : z.size = 0
  · have hz' : ((z.size : Int) == 0) = true := by simp [hz]
    clear hz
    go_wp2_with fail
    go_ret
    exact ⟨rfl, Below.refl _ _⟩
  have hz' : ((z.size : Int) == 0) = false := by simp [hz]
  have hzp : 0 < z.size := by omega
  clear hz
  by_cases hx : z[0].toNat = 33 ∨ z[0].toNat = 61
  case neg =>
    have hx1 : ((z[0].toNat : Int) == 33) = false := by simp; omega
    have hx2 : ((z[0].toNat : Int) == 61) = false := by simp; omega
    clear hx
    go_wp2_with fail
    refine (isA _ _).mono ?_
    rintro e w1 ⟨rfl, rfl⟩
    rw [hx1, hx2]
    go_wp2_with fail
    go_ret
    exact ⟨rfl, Below.refl _ _⟩
  have hconv : ∀ W : World, (convert 26 9 (.int .i32 33)).run Try.prog W = Result.ok (.string ⟨#[33]⟩) W := fun W => by kernel_rfl
  have hconw : ∀ W : World, (convert 26 9 (.int .i32 61)).run Try.prog W = Result.ok (.string ⟨#[61]⟩) W := fun W => by kernel_rfl
  have TS := Lib.hid (fun w => tree_says 33 ⟨#[33]⟩ rfl hconv (by decide) ⟨#[40, 63, 33, 120, 41]⟩ (by decide +kernel) w)
  have TT := Lib.hid (fun w => tree_says 61 ⟨#[61]⟩ rfl hconw (by decide) ⟨#[40, 63, 61, 120, 41]⟩ (by decide +kernel) w)
  clear hconv hconw
  rcases hx with hx | hx
  case' inl => have TX := TS; clear TS TT
  case' inr => have TX := TT; clear TS TT
  all_goals
    have HX := Lib.hid hx
    go_wp2_with fail
    refine (isA _ _).mono ?_
    rintro e w1 ⟨rfl, rfl⟩
    go_wp2_with fail
    refine (copy _ n0 c0 z0 _ HV.out hs2).mono ?_
    rintro e w2 ⟨A2, c2, rfl, hv2, hb2⟩
    rcases hv2.split with h | ⟨b2, o2, rfl, hc2⟩
    · exfalso; omega
    have hd := hc2.out 0 hs1
    clear hc2 hv2 hc
    rw [Nat.add_zero, HZ.out] at hd
    go_wp2_with fail
    refine (cap w2.heap.size b2 o2 n0 c2 z _ 0 _ hs1 hzp HX (by decide) ((((Below.refl _ _).alloc (Nat.le_refl _) _).cell (p := ⟨b2, o2, none⟩) (World.block_lt_of_cell? _ _ hd)).trans hd) (Blk.new _ _ _)).mono ?_
    rintro e w3 ⟨rfl, hbl, hb3'⟩
    have hb3 : Below w.heap.size w w3 := (hb2.alloc hb2.size _).trans (hb3'.mono hb2.size)
    have hcl := hbl.cell 0
    have hlt := hbl.lt
    simp at hcl
    have hcl5 := fun o1 o2 o3 o4 o5 => cell_far (al5 w3 o1 o2 o3 o4 o5) hcl
    clear hd hb3' hcl hlt
    go_wp2_with fail
    refine (TX.out w3 _ (Below.refl _ _)).mono ?_
    rintro e w4 ⟨rfl, hb4⟩
    have hb5 : Below w.heap.size w w4 := below_next hb4 ((hb3.trans ((al5 w3 _ _ _ _ _).mono hb3.size)).alloc (by have := hb3.size; simp; omega) _)
    clear hb4 hcl5
    go_wp2_with fail
    first
      | go_loopg [12] 5 (fun k i wr => ∃ j : Nat, k = 5 - j ∧ j ≤ 5 ∧ i = .int .i64 j ∧ Blk wr w4.heap.size 5 #[.int .u8 40, .int .u8 63, .int .u8 33, .int .u8 120, .int .u8 41] ∧ Below w.heap.size w wr)
        case atStart => exact ⟨0, rfl, Nat.zero_le _, rfl, Blk.new _ _ _, hb5.alloc hb5.size _⟩
      | go_loopg [12] 5 (fun k i wr => ∃ j : Nat, k = 5 - j ∧ j ≤ 5 ∧ i = .int .i64 j ∧ Blk wr w4.heap.size 5 #[.int .u8 40, .int .u8 63, .int .u8 61, .int .u8 120, .int .u8 41] ∧ Below w.heap.size w wr)
        case atStart => exact ⟨0, rfl, Nat.zero_le _, rfl, Blk.new _ _ _, hb5.alloc hb5.size _⟩
    case round =>
      obtain ⟨j, hk, hj, rfl, hblk, hbel⟩ := hrel
      have KK := Lib.hid hk; clear hk
      rcases (show j = 0 ∨ j = 1 ∨ j = 2 ∨ j = 3 ∨ j = 4 ∨ j = 5 by omega) with rfl | rfl | rfl | rfl | rfl | rfl
      · have hc := hblk.cell 0
        simp at hc
        go_wp2_with fail
        go_quiet (fail)
        go_wp2_with fail
        go_roundg (5 - 1)
        case measure => rw [KK.out]; omega
        case rel => exact ⟨1, rfl, by omega, by go_num, hblk.drewN _, below_drewN hbel _⟩
      · have hc := hblk.cell 1
        simp at hc
        go_wp2_with fail
        go_quiet (fail)
        go_wp2_with fail
        go_roundg (5 - 2)
        case measure => rw [KK.out]; omega
        case rel => exact ⟨2, rfl, by omega, by go_num, hblk.drewN _, below_drewN hbel _⟩
      · have hc := hblk.cell 2
        simp at hc
        go_wp2_with fail
        go_quiet (fail)
        go_wp2_with fail
        go_roundg (5 - 3)
        case measure => rw [KK.out]; omega
        case rel => exact ⟨3, rfl, by omega, by go_num, hblk.drewN _, below_drewN hbel _⟩
      · have hc := hblk.cell 3
        simp at hc
        go_wp2_with fail
        go_quiet (fail)
        go_wp2_with fail
        go_roundg (5 - 4)
        case measure => rw [KK.out]; omega
        case rel => exact ⟨4, rfl, by omega, by go_num, hblk.drewN _, below_drewN hbel _⟩
      · have hc := hblk.cell 4
        simp at hc
        go_wp2_with fail
        go_quiet (fail)
        go_wp2_with fail
        go_roundg (5 - 5)
        case measure => rw [KK.out]; omega
        case rel => exact ⟨5, rfl, by omega, by go_num, hblk.drewN _, below_drewN hbel _⟩
      · go_wp2_with fail
        go_ret
        exact ⟨rfl, hbel⟩
end fnCapturePrintsBack
end Go.Proofs.Ytjneojglklbbfaa
