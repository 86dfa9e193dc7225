/-
  The walk of FnPositionStringExact. Conditions: F answers the tape.
-/
import Derived.Test.YtepncdnhcpencaaFmtI6
namespace Go.Proofs.YtepncdnhcpencaaFmt
open Go.RowKit Go.Kit Go.Extern.Stop Go.Stop Go.Extern
set_option linter.unusedSimpArgs false
set_option linter.unusedVariables false
namespace fnPositionStringExact
open fnErrorfPercentS (ba_ext ec pc)
set_option maxRecDepth 100000 in
theorem zz (a : ByteArray) (o l c : Int) (w : World) (ha : a.size ≤ maxLen) : Calls Tryf.prog 6 #[.string a, .int .i64 o, .int .i64 l, .int .i64 c] w (BoolAny w) := by
  unfold maxLen at ha
  go_enter Tryf.func6, Tryf.ntmps6
  go_wp2_with fail
  all_goals (go_ret; exact ⟨_, rfl, rfl⟩)
theorem itoaS_size {x : Int} (h : (Lit.int .i64 x).wf = true) : (⟨(Lib.itoa x).toArray⟩ : ByteArray).size ≤ 21 := by
  have := Lib.itoa_length_le x (wf_range h).1 (wf_range h).2
  simpa [ByteArray.size] using this
set_option maxHeartbeats 2000000 in
set_option maxRecDepth 100000 in
theorem walk (F : Interp) (fn : ByteArray) (o l c : Int) (w : World) (hF : F.told.answers w.tape) (hfn : fn.size ≤ maxLen) (ho : (Lit.int .i64 o).wf = true) (hl : (Lit.int .i64 l).wf = true) (hc : (Lit.int .i64 c).wf = true) :
    Calls Tryf.prog 3 #[.string fn, .int .i64 o, .int .i64 l, .int .i64 c] w fun e w' => e = .returned (.bool true) ∧ Below w.heap.size w w' := by
  have HZ := Lib.hid (zz fn o l c w hfn)
  have HL := Lib.hid (fun W => itoa_any l W hl)
  have HC := Lib.hid (fun W => itoa_any c W hc)
  have hsl := itoaS_size hl
  have hsc := itoaS_size hc
  have HE := Lib.hid (fun (W : World) (h : Below w.heap.size w W) => ps_empty F o l c W (by rw [h.tape]; exact hF) hl hc)
  have HN := Lib.hid (fun (W : World) (h : Below w.heap.size w W) hn hs => ps_named F fn o l c W (by rw [h.tape]; exact hF) hn hs hl hc)
  have HT2 : Hid ((⟨(text2 l c).toArray⟩ : ByteArray) = (⟨(Lib.itoa l).toArray⟩ : ByteArray) ++ ⟨#[58]⟩ ++ ⟨(Lib.itoa c).toArray⟩) := Lib.hid (ba_ext (by simp [text2, ByteArray.data_append]))
  have HT3 : Hid ((⟨(text3 fn.data.toList l c).toArray⟩ : ByteArray) = fn ++ ⟨#[58]⟩ ++ ⟨(text2 l c).toArray⟩) := Lib.hid (ba_ext (by simp [text3, ByteArray.data_append]))
  rw [HT2.out] at HT3 HE
  rw [HT3.out] at HN
  clear HT2 HT3
  generalize (⟨(Lib.itoa l).toArray⟩ : ByteArray) = sl at HL HE HN hsl
  generalize (⟨(Lib.itoa c).toArray⟩ : ByteArray) = sc at HC HE HN hsc
  unfold maxLen at hfn
  clear hF ho hl hc
  have hz1 : (⟨#[58]⟩ : ByteArray).size = 1 := rfl
  have ha1 := fun W => run_string_add_sum (P := Tryf.prog) (w := W) sl ⟨#[58]⟩ (by omega)
  have hs1 : (sl ++ ⟨#[58]⟩ : ByteArray).size = sl.size + 1 := by rw [ByteArray.size_append]; rfl
  have ha2 := fun W => run_string_add_sum (P := Tryf.prog) (w := W) (sl ++ ⟨#[58]⟩) sc (by omega)
  have hs2 : (sl ++ ⟨#[58]⟩ ++ sc : ByteArray).size = sl.size + 1 + sc.size := by rw [ByteArray.size_append, hs1]
  by_cases hem : fn = ⟨#[]⟩
  · subst hem
    clear HN
    go_enter Tryf.func3, Tryf.ntmps3
    go_wp2_with fail
    refine HZ.out.mono ?_
    rintro e w' ⟨bz, rfl, rfl⟩
    go_wp2_with fail
    all_goals try (go_ret; exact ⟨rfl, Below.refl _ _⟩)
    have hb1 : Below w.heap.size w (w.alloc (.cells (pc (⟨#[]⟩ : ByteArray) o l c) 24)) := (Below.refl _ _).alloc (Nat.le_refl _) _
    have hk1 : Blk (w.alloc (.cells (pc (⟨#[]⟩ : ByteArray) o l c) 24)) w.heap.size 24 (pc (⟨#[]⟩ : ByteArray) o l c) := Blk.new _ _ _
    refine (HL.out _).mono ?_
    rintro e w1 ⟨rfl, hl1⟩
    have hk2 := hk1.later hl1
    have hb2 := below_next hl1 hb1
    go_wp2_with fail
    refine (HC.out _).mono ?_
    rintro e w2 ⟨rfl, hl2⟩
    have hk3 := hk2.later hl2
    have hb3 := below_next hl2 hb2
    have g0 := hk3.cell 0
    have g1 := hk3.cell 1
    have g2 := hk3.cell 2
    have g3 := hk3.cell 3
    simp [pc] at g0 g1 g2 g3
    clear hk1 hk2 hk3 hb1 hb2 hl1 hl2 HL HC
    go_wp2_with fail
    refine (HE.out _ hb3).mono ?_
    rintro e w3 ⟨rfl, hl3⟩
    have hb4 := below_next hl3 hb3
    go_wp2_with fail
    go_ret
    exact ⟨rfl, hb4⟩
  · have hne : fn.toList.isEmpty = false := by
      rw [ByteArray.toList_eq]
      cases h : fn.data.toList with
      | nil => exact absurd (ba_ext (by rw [h])) hem
      | cons x r => rfl
    clear HE
    go_enter Tryf.func3, Tryf.ntmps3
    go_wp2_with fail
    refine HZ.out.mono ?_
    rintro e w' ⟨bz, rfl, rfl⟩
    go_wp2_with fail
    all_goals try (go_ret; exact ⟨rfl, Below.refl _ _⟩)
    have hb1 : Below w.heap.size w (w.alloc (.cells (pc fn o l c) 24)) := (Below.refl _ _).alloc (Nat.le_refl _) _
    have hk1 : Blk (w.alloc (.cells (pc fn o l c) 24)) w.heap.size 24 (pc fn o l c) := Blk.new _ _ _
    refine (HL.out _).mono ?_
    rintro e w1 ⟨rfl, hl1⟩
    have hk2 := hk1.later hl1
    have hb2 := below_next hl1 hb1
    go_wp2_with fail
    refine (HC.out _).mono ?_
    rintro e w2 ⟨rfl, hl2⟩
    have hk3 := hk2.later hl2
    have hb3 := below_next hl2 hb2
    have g0 := hk3.cell 0
    have g1 := hk3.cell 1
    have g2 := hk3.cell 2
    have g3 := hk3.cell 3
    simp [pc] at g0 g1 g2 g3
    clear hk1 hk2 hk3 hb1 hb2 hl1 hl2 HL HC
    have hf6 : fn.size ≤ 1048576 := by omega
    have ha3 := fun W => run_string_add_sum (P := Tryf.prog) (w := W) fn ⟨#[58]⟩ (by omega)
    have hs3 : (fn ++ ⟨#[58]⟩ : ByteArray).size = fn.size + 1 := by rw [ByteArray.size_append]; rfl
    have ha4 := fun W => run_string_add_sum (P := Tryf.prog) (w := W) (fn ++ ⟨#[58]⟩) (sl ++ ⟨#[58]⟩ ++ sc) (by omega)
    go_wp2_with fail
    refine (HN.out _ hb3 hne hf6).mono ?_
    rintro e w3 ⟨rfl, hl3⟩
    have hb4 := below_next hl3 hb3
    go_wp2_with fail
    go_ret
    exact ⟨rfl, hb4⟩
end fnPositionStringExact
end Go.Proofs.YtepncdnhcpencaaFmt
