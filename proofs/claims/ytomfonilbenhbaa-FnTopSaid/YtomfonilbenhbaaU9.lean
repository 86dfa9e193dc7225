/-
  The walk of FnUpgradeStopsAtFirstError: Upgrade stops at the lexer's first error, hands it on and keeps the tokens read before. Conditions: none beyond the statement's own.
-/
import Derived.Test.YtomfonilbenhbaaU8
import Derived.LaidEql
namespace Go.Proofs.Ytomfonilbenhbaa
open Go.RowKit
set_option linter.unusedSimpArgs false
set_option linter.unusedVariables false
namespace Up
theorem run_neq_iface_ptr_same {P : Program} (w : World) {ti tp te : TypeId} {ms : Array (String × TypeId)} {i j : TypeInfo} (a : Addr)
    (hi : P.underlying ti = some (.interface ms)) (hp : P.underlying tp = some (.pointer te)) (hinfo : P.info? tp = some i) (hcomp : i.comparable = true) (hte : P.info? te = some j) :
    (binOp .neq ti (.iface tp (.pointer (some a))) (.iface tp (.pointer (some a)))).run P w = .ok (.bool false) w := by
  simp only [binOp]
  simp [Op.equal, Op.maxDepth, run_equalIn_iface_ptr_same w 9998 a hi hp hinfo hcomp hte]
theorem errComp : (Try.prog.info? 30).map (·.comparable) = some true := by kernel_rfl
theorem errSize : (Try.prog.info? 134).map (·.size) = some 5 := by kernel_rfl
theorem neq_err (a : Addr) (w : World) : (binOp .neq 35 (.iface 30 (.pointer (some a))) (.iface 30 (.pointer (some a)))).run Try.prog w = .ok (.bool false) w := by
  obtain ⟨i, hi, hcmp⟩ := Option.map_eq_some_iff.1 errComp
  obtain ⟨j, hj, hjs⟩ := Option.map_eq_some_iff.1 errSize
  exact run_neq_iface_ptr_same w a Try.underlying35 Try.underlying30 hi hcmp hj
theorem ints_of_own {w : World} {base g n c : Nat} {t : TypeId} {z : List Int} (h : w.ownsRow base t 1 (.slice (some ⟨g, 0, none⟩) n c) n (intsV z)) (hl : z.length = n) (hn : n ≤ maxLen) (hw : ∀ x ∈ z, (Lit.int .i64 x).wf = true) : Ints .i64 w (some ⟨g, 0, none⟩) n z := by
  have hr := Row.of_own h
  refine ⟨hl, hn, hw, .inr ⟨g, 0, rfl, hr.lt, fun i hi => ?_⟩⟩
  rw [Nat.zero_add]
  refine hr.cell ?_
  simp [intsV, List.getElem?_eq_getElem (show i < z.length by omega)]
theorem i8_wide {z : List Int} (h : ∀ x ∈ z, (Lit.int .i8 x).wf = true) : ∀ x ∈ z, (Lit.int .i64 x).wf = true := fun x hx => by
  have := h x hx
  simp [Lit.wf, IntKind.min, IntKind.max, IntKind.signed, IntKind.bits] at this ⊢
  omega
theorem built_len {z : List Int} {L : List Tok} (h : Built z L) : L.length = z.length + 1 := by
  have := congrArg List.length h
  simpa [types] using this
theorem built_first {z : List Int} {L : List Tok} (h : Built z L) (hz : ∀ x ∈ z, x ≠ -1) : PL.First (types L) (L.length - 1) := by
  rw [built_len h, show z.length + 1 - 1 = z.length by omega, h]
  refine ⟨by simp [PL.at_], fun i hi => ?_⟩
  have : PL.at_ (z ++ [-1]) i = z[i] := by simp [PL.at_, List.getD, List.getElem?_append_left hi, List.getElem?_eq_getElem hi]
  rw [this]
  exact hz _ (by simp)
theorem built_wf {z : List Int} {L : List Tok} (h : Built z L) (hz : ∀ x ∈ z, (Lit.int .u8 x).wf = true) : ∀ t ∈ L, (Lit.int .i64 t.ty).wf = true := fun t ht => by
  have : t.ty ∈ types L := List.mem_map_of_mem ht
  rw [h] at this
  rcases List.mem_append.1 this with g | g
  · have := hz _ g
    simp [Lit.wf, IntKind.min, IntKind.max, IntKind.signed, IntKind.bits] at this ⊢
    omega
  · simp at g
    rw [g]; decide
theorem u8_ne1 {z : List Int} (hz : ∀ x ∈ z, (Lit.int .u8 x).wf = true) : ∀ x ∈ z, x ≠ -1 := fun x hx => by
  have := hz x hx
  simp [Lit.wf, IntKind.min, IntKind.max, IntKind.signed, IntKind.bits] at this
  omega
theorem take_getD {L : List Tok} {m j : Nat} (h : j < m) : (L.take m).getD j eofTok = L.getD j eofTok := by
  simp [List.getD, List.getElem?_take, h]
theorem Mid.range {w w6 : World} {zb : Nat} {TZ : TypeId} {cs : Array Value} {tb : Nat} {L : List Tok} {m pb mb nm : Nat} {S : Int → Bool} {u : Value} (h : Mid w w6 zb TZ cs tb L m pb mb nm S u) :
    ∃ g, Calls Try.prog 20 #[.pointer (some ⟨pb, 0, none⟩), .int .i64 0, .int .i64 m] w6 (RangePost w6 g 0 m) ∧ (0 < m → Row w6 g 46 (toksCells (L.take m))) := by
  rcases own_row h.own with ⟨-, rfl, rfl⟩ | ⟨g, c, rfl, -, -, hr⟩
  · exact ⟨0, range_nil w6 pb _ _ _ _ 0 0 h.r, fun h => absurd h (Nat.lt_irrefl _)⟩
  · obtain ⟨h1, h2⟩ := own_cap h.own
    exact ⟨g, range_at w6 pb g m c _ _ _ _ 0 m m h.r (Nat.zero_add _) h1 h2, fun _ => hr⟩
end Up
namespace fnUpgradeStopsAtFirstError
open Up
set_option maxHeartbeats 4000000 in
set_option maxRecDepth 100000 in
theorem walk (A0 : Option Addr) (n0 c0 : Nat) (z0 : List Int) (A1 : Option Addr) (n1 c1 : Nat) (z1 : List Int) (k : Int) (w : World)
    (ht : Ints .u8 w A0 n0 z0) (he : Ints .i8 w A1 n1 z1) (_ : (Lit.int .i64 k).wf = true) :
    Calls Try.prog 3 #[.slice A0 n0 c0, .slice A1 n1 c1, .int .i64 k] w fun e w' => e = .returned (.bool true) ∧ Below w.heap.size w w' := by
  have hm0 := ht.2.1
  have hm1 := he.2.1
  have HT := Lib.hid ht; clear ht
  have HE := Lib.hid he; clear he
  by_cases hsmall : n0 ≤ 65536 ∧ n1 ≤ 65536 ∧ 0 ≤ k ∧ k ≤ (n0 : Int)
  case neg =>
    go_enter Try.func3, Try.ntmps3
    go_wp2_with fail
    refine (zzA A0 n0 c0 A1 n1 c1 k _ hm0 hm1).mono ?_
    rintro e w1 ⟨b, rfl, rfl⟩
    unfold maxLen at hm0 hm1
    cases b
    · go_wp2_with fail
      go_ret
      exact ⟨rfl, Below.refl _ _⟩
    · go_wp2_with fail
      all_goals first | (exfalso; omega) | (go_ret; exact ⟨rfl, Below.refl _ _⟩)
  obtain ⟨hs0, hs1, hk0, hk1⟩ := hsmall
  obtain ⟨m, rfl⟩ : ∃ m : Nat, k = m := ⟨k.toNat, by omega⟩
  go_enter Try.func3, Try.ntmps3
  go_wp2_with fail
  refine (zzA A0 n0 c0 A1 n1 c1 m _ hm0 hm1).mono ?_
  rintro e w0 ⟨b, rfl, rfl⟩
  unfold maxLen at hm0 hm1
  cases b
  · go_wp2_with fail
    go_ret
    exact ⟨rfl, Below.refl _ _⟩
  go_wp2_with fail
  refine (cloneU8 A0 n0 c0 z0 _ HT.out hs0).mono ?_
  rintro e w1 ⟨A0', c0', rfl, hi1, hb1⟩
  have HI1 := Lib.hid hi1; clear hi1
  go_wp2_with fail
  refine (cloneI8 A1 n1 c1 z1 _ (HE.out.later hb1) hs1).mono ?_
  rintro e w2 ⟨A1', c1', rfl, hi2, hb2⟩
  have HI2 := Lib.hid hi2; clear hi2
  go_wp2_with fail
  refine (build_any A0' n0 c0' z0 _ (HI1.out.later hb2) hs0).mono ?_
  rintro e w3 ⟨L, tb, cT, rfl, hL, htb, hrow, hb3⟩
  have hbw3 : Below w.heap.size w w3 := below_next hb3 (below_next hb2 hb1)
  have HLL := Lib.hid (built_len hL)
  have HF := Lib.hid (built_first hL (u8_ne1 HT.out.2.2.1))
  have HW := Lib.hid (built_wf hL HT.out.2.2.1)
  have hlz := HT.out.1
  have hln : L.length ≤ 65537 ∧ 0 < L.length ∧ m < L.length := by rw [HLL.out]; omega
  have HI2' := Lib.hid (HI2.out.later hb3)
  have HR := Lib.hid hrow
  clear hlz hL hb1 hb2 hb3 hrow HI2
  go_wp2_with fail
  have hz0 : Blk (w3.alloc (.cells #[.slice (some ⟨tb, 0, none⟩) L.length cT, .int .i64 0, .int .i64 m, .int .i64 0, .pointer none] 32)) w3.heap.size 32 #[.slice (some ⟨tb, 0, none⟩) L.length cT, .int .i64 0, .int .i64 m, .int .i64 0, .pointer none] := Blk.new w3 _ _
  have hb4 : Below w.heap.size w (w3.alloc (.cells #[.slice (some ⟨tb, 0, none⟩) L.length cT, .int .i64 0, .int .i64 m, .int .i64 0, .pointer none] 32)) := hbw3.alloc hbw3.size _
  have hsz3 := hbw3.size
  have hzw : w.heap.size ≤ w3.heap.size := hsz3
  refine (el_any A1' n1 c1' z1 (w3.alloc (.cells #[.slice (some ⟨tb, 0, none⟩) L.length cT, .int .i64 0, .int .i64 m, .int .i64 0, .pointer none] 32)) (HI2'.out.later ((Below.refl _ _).alloc (Nat.le_refl _) _)) hs1).mono ?_
  rintro e w5 ⟨rfl, hown5, hb5⟩
  have hbw5 := below_next hb5 hb4
  have hz5 : Blk w5 w3.heap.size 32 (rpZ tb cT L m (.pointer none) 0) := hz0.later hb5
  have hr5 := (HR.out.alloc (.cells #[.slice (some ⟨tb, 0, none⟩) L.length cT, .int .i64 0, .int .i64 m, .int .i64 0, .pointer none] 32)).later hb5
  have hiE : Ints .i64 w5 (some ⟨w3.heap.size + 1, 0, none⟩) n1 z1 := by
    have := ints_of_own hown5 HE.out.1 (by unfold maxLen; omega) (i8_wide HE.out.2.2.1)
    simpa using this
  have HZ5 := Lib.hid hz5
  have HR5 := Lib.hid hr5
  have HIE := Lib.hid hiE
  obtain ⟨zb, hzb⟩ : ∃ x, x = w3.heap.size := ⟨_, rfl⟩
  rw [← hzb] at HZ5 HIE hzw
  clear hz0 hb4 hb5 hz5 hr5 hiE hown5 hbw3
  go_wp2_with fail
  rw [← hzb]
  clear hzb
  refine (up_fail 29 84 zb 32 (rpZ tb cT L m (.pointer none)) tb L _ n1 n1 z1 w5 m 30 (rpF tb cT L m) (fun _ => True) (rp_src zb tb cT L m (.pointer none) m (by omega) (by omega) (fun j hj => by omega)) (rp_fails zb tb cT L (.pointer none) m (by omega)) (by omega) HIE.out (by omega) HZ5.out HR5.out HF.out (by omega) (by omega) HW.out).mono ?_
  rintro e w6 ⟨pb, eb, -, rfl, mb, nm, S, u, hM⟩
  have q3 := hM.z.cell 3
  have q4 := hM.z.cell 4
  simp [rpF, rpCells] at q3 q4
  have HM := Lib.hid hM
  have hb6 : Below w.heap.size w w6 := hbw5.grown hM.grown hbw5.size (fun k hk => by injection hk with hk; omega)
  clear hM hbw5
  have hneq := neq_err ⟨eb, 0, none⟩
  go_wp2_with fail
  obtain ⟨g, hrg, hrow⟩ := HM.out.range
  have HROW := Lib.hid hrow
  refine hrg.mono ?_
  rintro e w7 ⟨A', c', rfl, rfl, hA'⟩
  have HA' := Lib.hid hA'
  clear hA' hrg hrow q3 q4 hneq
  go_wp2_with fail
  go_loopg [12] m (fun q i wx => ∃ j : Nat, q = m - j ∧ j ≤ m ∧ i = .int .i64 j ∧ ∃ q, wx = w6.drewN q)
  case atStart => exact ⟨0, rfl, Nat.zero_le _, rfl, 0, rfl⟩
  case round =>
    obtain ⟨j, hq, hj, rfl, q0, hq0⟩ := hrel
    have KK := Lib.hid hq; clear hq
    have HQ0 := Lib.hid hq0; clear hq0
    by_cases hlt : j < m
    · obtain rfl := HA'.out (by omega)
      have hi0 : (0 : Int) ≤ (j : Int) := by omega
      have hi1 : (j : Int) < (m : Int) := by omega
      have hi2 : (j : Int) < (L.length : Int) := by omega
      have hr1 := (HROW.out (by omega)).drewN q0
      have hr2 := HM.out.src.drewN q0
      rw [← HQ0.out] at hr1 hr2
      obtain ⟨d0, d1, d2, d3, d4, d5⟩ := row_tok hr1 (i := j) (by rw [List.length_take]; omega)
      obtain ⟨e0, e1, e2, e3, e4, e5⟩ := row_tok hr2 (i := j) (by omega)
      rw [take_getD hlt] at d0 d1 d2 d3 d4 d5
      obtain ⟨t, ht⟩ : ∃ t, t = L.getD j eofTok := ⟨_, rfl⟩
      rw [← ht] at d0 d1 d2 d3 d4 d5 e0 e1 e2 e3 e4 e5
      clear ht hr1 hr2
      go_wp2_with fail
      go_quiet (fail)
      go_wp2_with fail
      go_roundg (m - (j + 1))
      case measure => rw [KK.out]; omega
      case rel => exact ⟨j + 1, rfl, by omega, by go_num, _, by rw [HQ0.out, World.drewN_drewN]⟩
    · have hr := (HM.out.r).drewN q0
      have hbz := below_drewN hb6 q0
      rw [← HQ0.out] at hr hbz
      have p0 := hr.cell 0
      have p1 := hr.cell 1
      have p2 := hr.cell 2
      simp at p0 p1 p2
      have HRB := Lib.hid hr
      clear hr
      have HB := Lib.hid hbz; clear hbz
      have hge : decide (j < m) = false := by simp; omega
      go_wp2_with (first
        | (go_at_call 21; refine (cursor_any _ _ _ _).mono ?_; rintro e w8 ⟨rfl, hb8⟩; have r0 := (HRB.out.later hb8).cell 0; have r1 := (HRB.out.later hb8).cell 1; have r2 := (HRB.out.later hb8).cell 2; simp at r0 r1 r2)
        | (go_at_call 22; refine (rawCursor_any _ _ _ _).mono ?_; rintro e w9 ⟨rfl, hb9⟩))
      go_ret
      exact ⟨rfl, below_next hb9 (below_next hb8 HB.out)⟩
end fnUpgradeStopsAtFirstError
end Go.Proofs.Ytomfonilbenhbaa
