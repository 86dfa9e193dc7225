/-
  The walk of FnErrorfPercentS, fmt's one text told. Conditions: F answers the tape.
-/
import Derived.Test.YtepncdnhcpencaaFmtI1
namespace Go.Proofs.YtepncdnhcpencaaFmt
open Go.RowKit Go.Kit Go.Extern.Stop Go.Stop Go.Extern
set_option linter.unusedSimpArgs false
set_option linter.unusedVariables false
namespace fnErrorfPercentS
theorem ba_ext {a b : ByteArray} (h : a.data.toList = b.data.toList) : a = b := by
  cases a; cases b
  simp at h
  subst h
  rfl
theorem t_parse : (FmtText.parse [37, 115]).map FmtText.glue = some [.verb {} 115] := by rfl
theorem t_text (s : List UInt8) (hs : s.length < 2 ^ 64) : FmtText.text "fmt.Sprintf" [[37, 115], shapeS, FmtStop.pack s] = some s := by
  have hn := FmtText.operand_str_at (sh := shapeS) rfl rfl s hs
  rw [FmtText.text_sprintf_glued t_parse (FmtText.operands_cons hn FmtText.operands_nil)]
  simp [FmtText.render, FmtText.printArg_s_str]
theorem told_is (F : Interp) (s : ByteArray) (hs : s.size ≤ 524288) : told F.told s = s := by
  have hl : s.data.toList.length ≤ 524288 := by simpa using hs
  have ht := told_string F (t_text s.data.toList (by omega)) (by omega)
  refine ba_ext ?_
  unfold told
  rw [textOf_list, ht]
set_option maxRecDepth 100000 in
theorem zz (a b : ByteArray) (o l c : Int) (w : World) (ha : a.size ≤ maxLen) (hb : b.size ≤ maxLen) : Calls Tryf.prog 12 #[.string a, .string b, .int .i64 o, .int .i64 l, .int .i64 c] w (BoolAny w) := by
  unfold maxLen at ha hb
  go_enter Tryf.func12, Tryf.ntmps12
  go_wp2_with fail
  all_goals (go_ret; exact ⟨_, rfl, rfl⟩)
/-- The error's five cells. -/
def ec (s fn : ByteArray) (o l c : Int) : Array Value := #[.string s, .string fn, .int .i64 o, .int .i64 l, .int .i64 c]
def pc (fn : ByteArray) (o l c : Int) : Array Value := #[.string fn, .int .i64 o, .int .i64 l, .int .i64 c]
set_option maxHeartbeats 2000000 in
set_option maxRecDepth 100000 in
theorem ea_any (F : Interp) (fn s : ByteArray) (o l c : Int) (w : World) (hF : F.told.answers w.tape) (hs : s.size ≤ 524288) :
    Calls Tryf.prog 13 #[.agg #[.string fn, .int .i64 o, .int .i64 l, .int .i64 c], .string ⟨#[37, 115]⟩, .string s] w fun e w' =>
      ∃ p, e = .returned (.pointer (some ⟨p, 0, none⟩)) ∧ w.heap.size ≤ p ∧ Blk w' p 32 (ec s fn o l c) ∧ Below w.heap.size w w' := by
  have hb1 : Below w.heap.size w (w.alloc (.cells #[.string fn, .int .i64 o, .int .i64 l, .int .i64 c] 24)) := (Below.refl _ _).alloc (Nat.le_refl _) _
  have hb2 : Below w.heap.size w ((w.alloc (.cells #[.string fn, .int .i64 o, .int .i64 l, .int .i64 c] 24)).alloc (.cells #[.iface 9 (.string s)] 20)) := hb1.alloc (by simp) _
  have HE := Lib.hid (er_any F.told fn s o l c (w.alloc (.cells #[.string fn, .int .i64 o, .int .i64 l, .int .i64 c] 24)).heap.size _ (by rw [hb2.tape]; exact hF) (heap_alloc_new _ _))
  rw [told_is F s hs] at HE
  simp at HE
  go_enter Tryf.func13, Tryf.ntmps13
  go_wp2_with fail
  refine HE.out.mono ?_
  rintro e w2 ⟨p, rfl, hp, hk, hb⟩
  have hle : w.heap.size ≤ p := by omega
  have hbw := below_next (by simpa using hb) hb2
  go_wp2_with fail
  go_ret
  exact ⟨p, rfl, hle, hk, hbw⟩
set_option maxRecDepth 100000 in
theorem msg_any (p : Nat) (s fn : ByteArray) (o l c : Int) (w : World) (hk : Blk w p 32 (ec s fn o l c)) :
    Calls Tryf.prog 14 #[.pointer (some ⟨p, 0, none⟩)] w fun e w' => e = .returned (.string s) ∧ Below w.heap.size w w' := by
  have p0 := hk.cell 0
  simp [ec] at p0
  go_enter Tryf.func14, Tryf.ntmps14
  go_wp2_with fail
  go_ret
  exact ⟨rfl, Below.refl _ _⟩
set_option maxRecDepth 100000 in
theorem pos_any (p : Nat) (s fn : ByteArray) (o l c : Int) (w : World) (hk : Blk w p 32 (ec s fn o l c)) :
    Calls Tryf.prog 15 #[.pointer (some ⟨p, 0, none⟩)] w fun e w' => e = .returned (.agg #[.string fn, .int .i64 o, .int .i64 l, .int .i64 c]) ∧ Below w.heap.size w w' := by
  have hlt := hk.lt
  have hz : (zeroValue 24).run Tryf.prog w = .ok (.agg #[.string ByteArray.empty, .int .i64 0, .int .i64 0, .int .i64 0]) w := by kernel_rfl
  have hka := hk.alloc (.cells #[.string ByteArray.empty, .int .i64 0, .int .i64 0, .int .i64 0] 24)
  have hn := Blk.new w 24 #[.string ByteArray.empty, .int .i64 0, .int .i64 0, .int .i64 0]
  have hb1 : Below w.heap.size w (w.alloc (.cells #[.string ByteArray.empty, .int .i64 0, .int .i64 0, .int .i64 0] 24)) := (Below.refl _ _).alloc (Nat.le_refl _) _
  obtain ⟨w1, hw1⟩ : ∃ W, W = w.alloc (.cells #[.string ByteArray.empty, .int .i64 0, .int .i64 0, .int .i64 0] 24) := ⟨_, rfl⟩
  have q1 := hka.cell 1
  have q2 := hka.cell 2
  have q3 := hka.cell 3
  have q4 := hka.cell 4
  simp [ec] at q1 q2 q3 q4
  go_enter Tryf.func15, Tryf.ntmps15
  go_wp2_with fail
  refine bodyPost_ret (results_cell_row (ty := 24) rfl _ _ w.heap.size 24 (pc fn o l c) (0, 0) _ rfl (heap_alloc_new _ _) Tryf.underlying24 rfl (by kernel_rfl)) rfl ⟨rfl, (Below.refl _ _).alloc (Nat.le_refl _) _⟩
theorem heldI {w W : World} {p g : Nat} {s fn : ByteArray} {o l c : Int} (h : Blk W p 32 (ec s fn o l c)) (h' : Blk W g 24 (pc fn o l c)) (hb : Below g w W) :
    Blk W p 32 (ec s fn o l c) ∧ Blk W g 24 (pc fn o l c) ∧ Below g w W ∧ (W.cell? ⟨p, 0, none⟩ = some (.string s) ∧ W.cell? ⟨p, 1, none⟩ = some (.string fn) ∧ W.cell? ⟨p, 2, none⟩ = some (.int .i64 o) ∧ W.cell? ⟨p, 3, none⟩ = some (.int .i64 l) ∧ W.cell? ⟨p, 4, none⟩ = some (.int .i64 c)) ∧ W.cell? ⟨g, 0, none⟩ = some (.string fn) ∧ W.cell? ⟨g, 1, none⟩ = some (.int .i64 o) ∧ W.cell? ⟨g, 2, none⟩ = some (.int .i64 l) ∧ W.cell? ⟨g, 3, none⟩ = some (.int .i64 c) :=
  ⟨h, h', hb, ⟨h.cell 0, h.cell 1, h.cell 2, h.cell 3, h.cell 4⟩, h'.cell 0, h'.cell 1, h'.cell 2, h'.cell 3⟩
theorem below_next2 {g : Nat} {w W W' : World} (h : Below W.heap.size W W') (k : Below g w W) (hg : g ≤ W.heap.size) : Below g w W' := k.trans (h.mono hg)
set_option maxHeartbeats 4000000 in
set_option maxRecDepth 100000 in
theorem walk (F : Interp) (fn s : ByteArray) (o l c : Int) (w : World) (hF : F.told.answers w.tape) (hfn : fn.size ≤ maxLen) (hs : s.size ≤ maxLen) (ho : (Lit.int .i64 o).wf = true) (hl : (Lit.int .i64 l).wf = true) (hc : (Lit.int .i64 c).wf = true) :
    Calls Tryf.prog 5 #[.string fn, .string s, .int .i64 o, .int .i64 l, .int .i64 c] w fun e w' => e = .returned (.bool true) ∧ Below w.heap.size w w' := by
  have HZ := Lib.hid (zz fn s o l c w hfn hs)
  have HE := Lib.hid (fun (W : World) (h : Below w.heap.size w W) (hs : s.size ≤ 524288) => ea_any F fn s o l c W (by rw [h.tape]; exact hF) hs)
  unfold maxLen at hfn hs
  clear hF ho hl hc
  go_enter Tryf.func5, Tryf.ntmps5
  go_wp2_with fail
  refine HZ.out.mono ?_
  rintro e w' ⟨bz, rfl, rfl⟩
  go_wp2_with fail
  all_goals try (go_ret; exact ⟨rfl, Below.refl _ _⟩)
  have hb1 : Below w.heap.size w (w.alloc (.cells #[.string fn, .int .i64 o, .int .i64 l, .int .i64 c] 24)) := (Below.refl _ _).alloc (Nat.le_refl _) _
  have hk1 : Blk (w.alloc (.cells #[.string fn, .int .i64 o, .int .i64 l, .int .i64 c] 24)) w.heap.size 24 (pc fn o l c) := Blk.new _ _ _
  refine (HE.out _ hb1 (by omega)).mono ?_
  rintro e w2 ⟨p, rfl, hp, hk, hb2⟩
  have hkp := hk1.later hb2
  have hbw := below_next hb2 hb1
  clear hb2 hk1 hb1 hp
  have HM := Lib.hid (fun W (h : Blk W p 32 (ec s fn o l c)) => msg_any p s fn o l c W h)
  have HP := Lib.hid (fun W (h : Blk W p 32 (ec s fn o l c)) => pos_any p s fn o l c W h)
  go_wp2_with fail
  go_region_held3 (fun W => Blk W p 32 (ec s fn o l c) ∧ Blk W w.heap.size 24 (pc fn o l c) ∧ Below w.heap.size w W ∧ (W.cell? ⟨p, 0, none⟩ = some (.string s) ∧ W.cell? ⟨p, 1, none⟩ = some (.string fn) ∧ W.cell? ⟨p, 2, none⟩ = some (.int .i64 o) ∧ W.cell? ⟨p, 3, none⟩ = some (.int .i64 l) ∧ W.cell? ⟨p, 4, none⟩ = some (.int .i64 c)) ∧ W.cell? ⟨w.heap.size, 0, none⟩ = some (.string fn) ∧ W.cell? ⟨w.heap.size, 1, none⟩ = some (.int .i64 o) ∧ W.cell? ⟨w.heap.size, 2, none⟩ = some (.int .i64 l) ∧ W.cell? ⟨w.heap.size, 3, none⟩ = some (.int .i64 c))
    (first | assumption | exact heldI hk.drew hkp.drew hbw.drew | (go_split_ands; exact heldI (Blk.later (by assumption) hbl) (Blk.later (by assumption) hbl) (below_next2 hbl (by assumption) (Nat.le_of_lt (Blk.lt (by assumption : Blk _ w.heap.size _ _))))))
    (first | (go_at_call 14; refine (HM.out _ (by go_split_ands; assumption)).mono ?_; rintro e W ⟨rfl, hbl⟩) | (go_at_call 15; refine (HP.out _ (by go_split_ands; assumption)).mono ?_; rintro e W ⟨rfl, hbl⟩))
  go_wp2_with fail
  go_ret
  obtain ⟨-, -, hbe, -⟩ := ‹Blk _ p 32 _ ∧ _›
  exact ⟨rfl, hbe⟩
end fnErrorfPercentS
end Go.Proofs.YtepncdnhcpencaaFmt
