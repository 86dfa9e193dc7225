/-
  include.applyRules on a map of slices of rules: the splice. Conditions: sizes as stated.
-/
import Derived.Test.YtlahcemjknffnaaFmtM5
namespace Go.Proofs.YtlahcemjknffnaaFmt
open Go.RowKit Go.Extern.Stop Go.Stop Go.Extern
set_option linter.unusedSimpArgs false
set_option linter.unusedVariables false
namespace fnInc
open fnValidatePush
theorem madeRule (n : Nat) : ∃ xs : List Value, (madeCells (Value.cells (Value.agg #[.string ByteArray.empty, .string ByteArray.empty, .nilIface, .bool false, .pointer none])) (n * 5)).toList = xs := ⟨_, rfl⟩
theorem slice_to (n c r g : Nat) (h : r ≤ c) (W : World) : (Instr.slice 38 (.slice (some ⟨g, 0, none⟩) n c) none (some (.int .i64 (r : Int))) none).run Tryf.prog W = .ok (.slice (some ⟨g, 0, none⟩) r c) W := by
  rw [run_slice_h W _ _ _ _ (by kernel_rfl) .i64 (r : Int) (by omega) (by omega)]
  have hs : (sizeOf (Tryf.prog.elem 38)).run Tryf.prog W = .ok 5 W := by kernel_rfl
  rw [hs]
  simp [Result.andThen, sliced, Addr.add]
def tailAd (g r c : Nat) : Addr := if c = r + 1 then ⟨g, 0, none⟩ else ⟨g, (r + 1) * 5, none⟩
theorem slice_from (n c r g : Nat) (h : r + 1 ≤ n) (W : World) : (Instr.slice 38 (.slice (some ⟨g, 0, none⟩) n c) (some (.int .i64 ((r : Int) + 1))) none none).run Tryf.prog W = .ok (.slice (some (tailAd g r c)) (n - (r + 1)) (c - (r + 1))) W := by
  rw [run_slice_l W _ _ _ _ (by kernel_rfl) .i64 ((r : Int) + 1) (by omega) (by omega)]
  have hs : (sizeOf (Tryf.prog.elem 38)).run Tryf.prog W = .ok 5 W := by kernel_rfl
  rw [hs]
  have e1 : ((r : Int) + 1).toNat = r + 1 := by omega
  simp only [Result.andThen, sliced, e1, tailAd]
  by_cases hc : c = r + 1
  · simp [hc]
  · simp [hc, Addr.add]
theorem step_append_at {P : Program} (w : World) {ops : Array Oper} {o : Oper} {a : Act} {K : Act → World → Prop} {Q : Exit → Act → World → Prop} {E : Prop} (hg : o.guard = none) (s x : Operand) (t : TypeId)
    (hop : o.op = Op.call { callee := Callee.builtin Builtin.append, args := #[s, x], argTypes := #[t, t] })
    (base : Nat) (e : TypeId) (i : TypeInfo) (z : Value) (size bytes : Nat) (ht : P.underlying t = some (.slice e)) (hi : P.info? e = some i) (hz : i.zero = some z)
    (hsize : i.size = size) (hby : i.bytes = bytes) (hzs : z.cells.size = size) (hsz : 0 < size)
    (g n cp : Nat) (xs : List Value) (hs : a.eval s = .slice (some ⟨g, 0, none⟩) n cp) (hown : w.ownsRow base e size (.slice (some ⟨g, 0, none⟩) n cp) n xs)
    (ad : Addr) (m c : Nat) (news : List Value) (hx : a.eval x = .slice (some ad) m c) (hl : news.length = m * size) (hnews : ∀ j u, news[j]? = some u → w.cell? (ad.add j) = some u) (h1 : ∀ u ∈ news, u.oneCell' = true)
    (h63 : n + m ≤ maxLen) (hbytes : (n + m) * bytes ≤ 140737488355328) (hbase : base ≤ w.heap.size)
    (hK : ∀ g' c' w', w'.ownsRow base e size (.slice (some ⟨g', 0, none⟩) (n + m) c') (n + m) (xs ++ news) → w.grownBy w' (some g) → (g' = g ∨ g' = w.heap.size) → K (a.put o.dst (.slice (some ⟨g', 0, none⟩) (n + m) c')) w') :
    if Region.wanted o (yielded ops a.tmps) = true then Oper.wp P o a w K Q else E := by
  have hw : Region.wanted o (yielded ops a.tmps) = true := by simp [Region.wanted, hg]
  rw [if_pos hw]
  obtain ⟨v', w', hr, h2, h3, h4, h5⟩ := run_append_own_at (P := P) w base t o.type e i z size bytes ht hi hz hsize hby hzs hsz _ n xs hown ad m c news hl hnews h1 h63 hbytes hbase
  have hv' : ∃ g' c', v' = .slice (some ⟨g', 0, none⟩) (n + m) c' ∧ (g' = g ∨ g' = w.heap.size) := by
    rcases own_row h2 with ⟨-, hv, -⟩ | ⟨g', c', hv, ho, -, -⟩
    · exact absurd (h4.1 hv).1 (by simp)
    · refine ⟨g', c', hv, ?_⟩
      rw [ho] at h5
      rcases h5 with h5 | h5
      · simp [Value.ownBlock] at h5; exact .inl h5
      · injection h5 with h5; exact .inr h5
  obtain ⟨g', c', rfl, hg'⟩ := hv'
  unfold Oper.wp
  simp [execOp, hop, resolve, invoke, builtin, hs, hx, hr, Result.andThen]
  exact hK g' c' w' h2 h3 hg'
theorem own_prefix {w : World} {base e g n c r : Nat} {z : List ByteArray} (h : w.ownsRow base e 5 (.slice (some ⟨g, 0, none⟩) n c) n (rc z)) (hn : z.length = n) (hr : r ≤ n) : w.ownsRow base e 5 (.slice (some ⟨g, 0, none⟩) r c) r (rc (z.take r)) := by
  obtain ⟨hl, hv⟩ := h
  refine ⟨by rw [rc_length]; simp; omega, ?_⟩
  rcases hv with ⟨hv, -⟩ | ⟨g', cap, cur, hv, hbg, hg, h2, h3, h4, h5⟩
  · cases hv
  injection hv with e1 e2 e3
  injection e1 with e1
  injection e1 with e1
  subst e1
  subst e3
  refine .inr ⟨g, c, cur, rfl, hbg, hg, by omega, h3, h4, ?_⟩
  rw [← rc_take z r (by omega), ← h5, List.take_take]
  congr 1
  omega
theorem tail_cells {w : World} {base e g c r : Nat} {z : List ByteArray} (h : w.ownsRow base e 5 (.slice (some ⟨g, 0, none⟩) z.length c) z.length (rc z)) (hr : r < z.length) : ∀ j u, (rc (z.drop (r + 1)))[j]? = some u → w.cell? ((tailAd g r c).add j) = some u := by
  intro j u hu
  have hc := h.cells (g := g) rfl
  have hcap := (own_cap h).1
  unfold tailAd
  by_cases e1 : c = r + 1
  · have : z.drop (r + 1) = [] := List.drop_eq_nil_of_le (by omega)
    rw [this] at hu
    simp [rc_nil] at hu
  · rw [if_neg e1]
    rw [← rc_drop z (r + 1) hr, List.getElem?_drop] at hu
    have := hc _ u hu
    have e2 : ∀ (x y : Nat), (⟨g, x, none⟩ : Addr).add y = ⟨g, x + y, none⟩ := fun x y => by unfold Addr.add; by_cases h : y = 0 <;> simp [h]
    rw [e2] at this ⊢
    rw [Nat.zero_add] at this
    exact this
set_option maxHeartbeats 2000000 in
set_option maxRecDepth 100000 in
theorem apply_hit (s st : ByteArray) (r b k : Nat) (N : ByteArray → Option (List ByteArray)) (z zi : List ByteArray) (w : World) (hm : Mm w b k N) (hk : k < maxLen) (hs : s.size ≤ maxLen) (hst : st.size ≤ maxLen) (hNi : N s = some zi) (hN : N st = some z)
    (hr : r < z.length) (hz : z.length ≤ 1048576) (hzi : zi.length ≤ 1048576) :
    Calls Tryf.prog 14 #[.agg #[.string s], .string st, .int .i64 (r : Int), .map (some b)] w fun e w' => e = .returned .nilIface ∧ Mm w' b k (upd N st (z.take r ++ (zi ++ z.drop (r + 1)))) ∧ Below b w w' := by
  obtain ⟨i0, hi, hz0, hz1, hz2⟩ := info_parts ruleInfo
  have hblt := hm.lt
  have hb2 : Below w.heap.size w (w.alloc (.cells #[.string s] 50)) := (Below.refl _ _).alloc (Nat.le_refl _) _
  obtain ⟨gi, ci, hlk, hrowi⟩ := (hm.later hb2).look hs hNi true
  rw [if_pos rfl] at hlk
  obtain ⟨g, c, HLK, hrow, HPUT⟩ := hm.turn hk hst hN
  have HROW := Lib.hid hrow
  have HROWI := Lib.hid hrowi
  clear hrow hrowi
  have ew : (w.alloc (.cells #[.string s] 50)).heap.size = w.heap.size + 1 := by simp
  go_enter Tryf.func14, Tryf.ntmps14
  go_wp2_with (at_make; refine wpList_make_full _ rfl _ _ 38 rfl b 45 i0 _ 5 Tryf.underlying38 hi hz0 hz1 _ _ _ _ zi.length rfl rfl rfl rfl (by rw [hz2]; omega) (by unfold maxLen; omega) (by simp; omega) ?_; intro w1 hown1 hg1; rw [ew] at hown1; obtain ⟨w2, hcp, hown2, hg2⟩ := run_copy_own (P := Tryf.prog) w1 b 38 3 45 5 _ gi zi.length ci _ (rc zi) Tryf.underlying38 (by kernel_rfl) hown1 (rc_length zi) ((own_later HROWI.out (grown_below_none hg1)).cells rfl) (rc_cells zi))
  clear hcp
  have hbw1 : Below w.heap.size w w1 := hb2.grown hg1 (by simp) (fun _ h => by cases h)
  have hbw2 : Below w.heap.size w w2 := hbw1.grown hg2 hbw1.size (fun k e => by injection e with e; omega)
  clear hlk
  have hlk2 := HLK.out w2.drew hbw2.drew
  have hs1 := slice_to z.length c r g (Nat.le_of_lt (Nat.lt_of_lt_of_le hr (own_cap HROW.out).1))
  have hs2 := slice_from z.length c r g hr
  have hgl := (HROW.out.lt g rfl).2
  have hcap := own_cap HROW.out
  have hsz2 : w.heap.size ≤ w2.heap.size := hbw2.size
  have H2 := Lib.hid hown2
  have hl1 : (rc (z.drop (r + 1))).length = (z.length - (r + 1)) * 5 := by rw [rc_length]; simp
  have hl2 : (rc zi ++ rc (z.drop (r + 1))).length = (zi.length + (z.length - (r + 1))) * 5 := by rw [List.length_append, hl1, rc_length]; omega
  have HL1 := Lib.hid hl1
  have HL2 := Lib.hid hl2
  have HA1 : Hid (∀ u ∈ rc zi ++ rc (z.drop (r + 1)), u.oneCell' = true) := Lib.hid (by rw [← rc_append]; exact rc_cells _)
  clear hown1 hg1 hown2 hg2 hbw1 hl1 hl2 hb2
  have hwr : IntKind.i64.wrap ((r : Int) + 1) = (r : Int) + 1 := by rw [IntKind.wrap_i64]; omega
  have hi0 : (0 : Int) ≤ (r : Int) + 1 := by omega
  have hi1 : (r : Int) + 1 ≤ (z.length : Int) := by omega
  have htn : ((r : Int) + 1).toNat = r + 1 := by omega
  have hta : (if c = r + 1 then some (⟨g, 0, none⟩ : Addr) else some ⟨g, (r + 1) * 5, none⟩) = some (tailAd g r c) := by unfold tailAd; by_cases h : c = r + 1 <;> simp [h]
  have EL : Hid ((z.take r ++ (zi ++ z.drop (r + 1))).length = r + (zi.length + (z.length - (r + 1)))) := Lib.hid (by rw [List.length_append, List.length_append, List.length_take, List.length_drop]; omega)
  have ERC : Hid (rc (z.take r ++ (zi ++ z.drop (r + 1))) = rc (z.take r) ++ (rc zi ++ rc (z.drop (r + 1)))) := Lib.hid (by rw [rc_append, rc_append])
  have hbg : b ≤ g := (HROW.out.lt g rfl).1
  go_region_law (first
    | (refine step_append_at _ (by rfl) (.tmp 39) (.tmp 45) _ (by rfl) b 45 i0 _ 5 64 Tryf.underlying38 hi hz0 hz1 hz2 rfl (by omega) (w.heap.size + 1) zi.length zi.length (rc zi) (by rfl) H2.out (tailAd g r c) (z.length - (r + 1)) (c - (r + 1)) (rc (z.drop (r + 1))) (by rfl) HL1.out (tail_cells (own_later HROW.out hbw2.drew) hr) (rc_cells _) (by unfold maxLen; omega) (by omega) (by show b ≤ w2.heap.size; omega) ?_
       intro g3 c3 w4 hown4 hg4 hat4
       have hbw4 : Below w.heap.size w w4 := hbw2.drew.grown hg4 hbw2.size (fun k e => by injection e with e; omega)
       have hlk4 := HLK.out w4 hbw4)
    | (refine step_append_at _ (by rfl) (.tmp 38) (.tmp 46) _ (by rfl) b 45 i0 _ 5 64 Tryf.underlying38 hi hz0 hz1 hz2 rfl (by omega) g r c (rc (z.take r)) (by rfl) (own_prefix (own_later HROW.out hbw4) rfl (Nat.le_of_lt hr)) ⟨g3, 0, none⟩ (zi.length + (z.length - (r + 1))) c3 (rc zi ++ rc (z.drop (r + 1))) (by rfl) HL2.out (hown4.cells rfl) HA1.out (by unfold maxLen; omega) (by omega) (by have := hbw4.size; omega) ?_
       intro g5 c5 w5 hown5 hg5 hat5
       obtain ⟨w6, hmu, hm6, hb6⟩ := HPUT.out w4 w5 g5 c5 (z.take r ++ (zi ++ z.drop (r + 1))) hbw4 hg5 (by rw [EL.out, ERC.out]; exact hown5) (by rcases hat5 with h | h; exact .inl h; have := hbw4.size; exact .inr (by omega))
       rw [EL.out] at hmu
       have hb5 : Below b w w5 := (Below.mk hbw4.os hbw4.tape hbw4.output hbw4.size (fun k hk => hbw4.block k (by omega))).grown hg5 (by have := hbw4.size; omega) (fun k e => by injection e with e; omega)
       have hbf : Below b w w6 := hb5.trans hb6))
  all_goals
    go_wp2_with fail
    go_ret
    exact ⟨rfl, hm6, hbf⟩
set_option maxRecDepth 100000 in
theorem zi_hit (s st : ByteArray) (r b k : Nat) (N : ByteArray → Option (List ByteArray)) (z zi : List ByteArray) (w : World) (hm : Mm w b k N) (hk : k < maxLen) (hs : s.size ≤ maxLen) (hst : st.size ≤ maxLen) (hNi : N s = some zi) (hN : N st = some z)
    (hr : r < z.length) (hz : z.length ≤ 1048576) (hzi : zi.length ≤ 1048576) :
    Calls Tryf.prog 12 #[.string s, .string st, .int .i64 (r : Int), .map (some b)] w fun e w' => e = .returned .nilIface ∧ Mm w' b k (upd N st (z.take r ++ (zi ++ z.drop (r + 1)))) ∧ Below b w w' := by
  have HV := Lib.hid (apply_hit s st r b k N z zi w hm hk hs hst hNi hN hr hz hzi)
  go_enter Tryf.func12, Tryf.ntmps12
  go_wp2_with fail
  refine HV.out.mono ?_
  rintro e w' ⟨rfl, hm', hb'⟩
  go_wp2_with fail
  go_ret
  exact ⟨rfl, hm', hb'⟩
set_option maxRecDepth 100000 in
theorem zi_miss (F : Interp) (s st : ByteArray) (r : Int) (b k : Nat) (N : ByteArray → Option (List ByteArray)) (w : World) (hF : F.answers w.tape) (hm : Mm w b k N) (hs : s.size ≤ maxLen) (hN : N s = none) :
    Calls Tryf.prog 12 #[.string s, .string st, .int .i64 r, .map (some b)] w fun e w' => ∃ p, e = .returned (.iface 58 (.pointer (some ⟨p, 0, none⟩))) ∧ Mm w' b k N ∧ Below b w w' := by
  have HV := Lib.hid (apply_miss F s st r b k N w hF hm hs hN)
  have hlt := hm.lt
  go_enter Tryf.func12, Tryf.ntmps12
  go_wp2_with fail
  refine HV.out.mono ?_
  rintro e w' ⟨p, rfl, hb'⟩
  go_wp2_with fail
  go_ret
  exact ⟨p, rfl, hm.later hb', Below.mk hb'.os hb'.tape hb'.output hb'.size (fun k hk => hb'.block k (by omega))⟩
end fnInc
end Go.Proofs.YtlahcemjknffnaaFmt
