/-
  FnIncludeApplyRulesSplicesIncludedState from the search for a name that lies twice on. Conditions: the sizes hold; F answers the tape.
-/
import Derived.Test.YtlahcemjknffnaaFmtMA
namespace Go.Proofs.YtlahcemjknffnaaFmt
open Go.RowKit Go.Extern.Stop Go.Stop Go.Extern
set_option linter.unusedSimpArgs false
set_option linter.unusedVariables false
namespace fnInc
open fnValidatePush
def RB : Value → Option (DataW Unit × List MemPlace)
  | .bool b => some (.lit (.bool b), [])
  | _ => none
theorem RB_inv {v : Value} {c : Bool} {ps : List MemPlace} (h : RB v = some (.lit (.bool c), ps)) : v = .bool c := by
  unfold RB at h
  split at h
  · injection h with h
    injection h with h1 h2
    injection h1 with h1
    injection h1 with h1
    rw [h1]
  · cases h
theorem zeroBl (w : World) : (zeroValue 4).run Tryf.prog w = .ok (.bool false) w := by kernel_rfl
/-- Block b is a map that says true of the names that S takes. -/
def SB (w : World) (b n : Nat) (S : ByteArray → Bool) : Prop := ∃ D : DataW Unit, w.ownsMap Tryf.prog 9 RB b n D ∧ ∀ s : ByteArray, D.atKey (kl s) (.lit (.bool false)) = .lit (.bool (S s))
theorem SB.made (w : World) : SB (w.alloc (.map #[] 0)) w.heap.size 0 (fun _ => false) := ⟨.map [], World.ownsMap_made _ _ _ _, fun s => rfl⟩
theorem SB.look {w : World} {b n : Nat} {S : ByteArray → Bool} (h : SB w b n S) {s : ByteArray} (hs : s.size ≤ maxLen) :
    (Instr.lookup 34 (.map (some b)) (.string s) false).run Tryf.prog w = .ok (.bool (S s)) w := by
  obtain ⟨D, h1, h2⟩ := h
  obtain ⟨v, ps, hrun, hv⟩ := h1.lookup strK Tryf.underlying34 (zeroBl w) (show RB (.bool false) = some (.lit (.bool false), []) from rfl) (keyS s hs)
  rw [h2 s] at hv
  rw [hrun, RB_inv hv]
theorem SB.put {w : World} {b n : Nat} {S : ByteArray → Bool} (h : SB w b n S) (hn : n < maxLen) {s : ByteArray} (hs : s.size ≤ maxLen) :
    ∃ w3, (Instr.mapUpdate 34 (.map (some b)) (.string s) (.bool true)).run Tryf.prog w = .ok () w3 ∧ SB w3 b (n + 1) (fun x => S x || eqB x s) ∧ w.mapTurned w3 b := by
  obtain ⟨D, h1, h2⟩ := h
  obtain ⟨w3, hrun, hm3, ht⟩ := h1.store (val := .bool true) (d := .lit (.bool true)) (ps := []) strK Tryf.underlying34 hn (keyS s hs) rfl
  refine ⟨w3, hrun, ⟨_, hm3, fun x => ?_⟩, ht⟩
  by_cases hx : x = s
  · subst hx
    rw [Maps.atKey_put_same h1.isMap (show WideAt.IsKeyLit (kl x) from trivial)]
    show DataW.lit (Lit.bool true) = .lit (.bool (S x || eqB x x))
    rw [eqB_self, Bool.or_true]
  · rw [Maps.atKey_put_other (fun e => hx (kl_inj e)), h2 x]
    show DataW.lit (Lit.bool (S x)) = .lit (.bool (S x || eqB x s))
    rw [eqB_ne hx, Bool.or_false]
theorem SB.lt {w : World} {b n : Nat} {S : ByteArray → Bool} (h : SB w b n S) : b < w.heap.size := by
  obtain ⟨D, h1, h2⟩ := h
  exact h1.lt
theorem SB.congr {w : World} {b n : Nat} {S S' : ByteArray → Bool} (h : SB w b n S) (e : ∀ x, S x = S' x) : SB w b n S' := by
  obtain ⟨D, h1, h2⟩ := h
  exact ⟨D, h1, fun s => (h2 s).trans (by rw [e s])⟩
theorem dist_step {z : List ByteArray} {j : Nat} (hj : j < z.length) (hd : Dist z j) (hm : memB (z.take j) (z.getD j ByteArray.empty) = false) : Dist z (j + 1) := by
  have key : ∀ i, i < j → z.getD i ByteArray.empty ≠ z.getD j ByteArray.empty := by
    intro i hi e
    have hmem : z.getD j ByteArray.empty ∈ z.take j := by
      rw [← e, List.getD_eq_getElem?_getD, List.getElem?_eq_getElem (by omega)]
      show z[i] ∈ z.take j
      rw [show z[i] = (z.take j)[i]'(by simp; omega) by simp]
      exact List.getElem_mem _
    rw [memB_of hmem] at hm
    cases hm
  intro i k hi hk e
  rcases Nat.lt_or_ge i j with a | a
  · rcases Nat.lt_or_ge k j with c | c
    · exact hd i k a c e
    · obtain rfl : k = j := by omega
      exact absurd e (key i a)
  · obtain rfl : i = j := by omega
    rcases Nat.lt_or_ge k i with c | c
    · exact absurd e.symm (key k c)
    · omega
noncomputable def rest30 : Code := right 10 top
set_option maxHeartbeats 4000000 in
set_option maxRecDepth 1000000 in
theorem rest30_any (F : Interp) (w0 w : World) (A0 A1 : Option Addr) (n0 c0 n1 c1 at_ r b : Nat) (z0 : List ByteArray) (z1 : List (List ByteArray)) (t : ByteArray) (Q : Exit → Act → World → Prop) (hF : F.answers w0.tape)
    (hQ : Hid (∀ (T : Array Value) (w' : World), T.getD 10 undef = .bool true → Below w0.heap.size w0 w' → Q .ret ⟨T, []⟩ w')) (hS0 : Strs w0 A0 n0 z0) (hS1 : Alts Strs w0 A1 n1 z1)
    (hb0 : Below w0.heap.size w0 w) (hle : w0.heap.size ≤ b) (hm : SB w b 0 (fun _ => false)) (ht : t.size ≤ maxLen)
    (hn0 : n0 ≤ 4096) (hn1 : n1 ≤ 4096) (hat : at_ < n0) (hr : r < (z1.getD at_ []).length) (hlen : ∀ i, (z1.getD i []).length ≤ 1048576) (u5 u6 u7 u8 u9 u10 u11 u12 u13 u14 u15 u16 u17 u19 u20 u43 u44 u45 u46 u47 u48 u49 u50 u51 u52 u53 u54 u55 u56 u57 u58 u59 u60 u61 u62 u63 u64 u65 u66 u67 u68 u69 u70 u71 u72 u73 u74 u75 u76 u77 u78 u79 u80 u81 u82 u83 u84 u85 u86 u87 u88 u89 u90 u91 u92 u93 u94 u95 u96 u97 u98 u99 u100 u101 u102 u103 u104 u105 u106 u107 u108 u109 u110 u111 u112 u113 u114 u115 u116 u117 u118 u119 u120 u121 u122 u123 u124 : Value) :
    Code.wp Tryf.prog rest30 Q ⟨#[.slice A0 n0 c0, .slice A1 n1 c1, .int .i64 (at_ : Int), .int .i64 (r : Int), .string t, u5, u6, u7, u8, u9, u10, u11, u12, u13, u14, u15, u16, u17, .map (some b), u19, u20, undef, undef, undef, undef, undef, undef, undef, undef, undef, undef, undef, undef, undef, undef, undef, undef, undef, undef, undef, undef, undef, undef, u43, u44, u45, u46, u47, u48, u49, u50, u51, u52, u53, u54, u55, u56, u57, u58, u59, u60, u61, u62, u63, u64, u65, u66, u67, u68, u69, u70, u71, u72, u73, u74, u75, u76, u77, u78, u79, u80, u81, u82, u83, u84, u85, u86, u87, u88, u89, u90, u91, u92, u93, u94, u95, u96, u97, u98, u99, u100, u101, u102, u103, u104, u105, u106, u107, u108, u109, u110, u111, u112, u113, u114, u115, u116, u117, u118, u119, u120, u121, u122, u123, u124, undef, undef, undef, undef, undef, undef, undef, undef, undef, undef, undef, undef, undef, undef, undef, undef, undef, undef, undef, undef, undef, undef, undef, undef, undef, undef, undef, undef, undef, undef, undef, undef, undef, undef, undef, undef, undef, undef, undef, undef, undef, undef, undef, undef, undef, undef, undef, undef, undef, undef, undef, undef, undef, undef, undef, undef, undef, undef, undef, undef, undef, undef, undef, undef, undef, undef, undef, undef, undef, undef, undef, undef, undef, undef, undef, undef, undef, undef, undef, undef, undef, undef, undef, undef, undef, undef, undef, undef, undef, undef, undef, undef, undef, undef, undef, undef, undef, undef, undef, undef, undef, undef, undef, undef, undef, undef, undef, undef, undef, undef, undef, undef, undef, undef, undef, undef, undef, undef, undef, undef, undef, undef, undef, undef, undef, undef, undef, undef, undef, undef, undef, undef, undef, undef, undef, undef, undef, undef, undef, undef, undef, undef, undef, undef, undef, undef, undef, undef, undef, undef, undef, undef, undef, undef, undef, undef, undef, undef, undef, undef, undef, undef, undef, undef, undef, undef, undef, undef, undef, undef, undef, undef, undef, undef, undef], []⟩ w := by
  have HLEN := Lib.hid hlen
  have HF := Lib.hid hF
  have HS0 := Lib.hid hS0
  have HS1 := Lib.hid hS1
  have HL := Lib.hid hS0.1
  have hm0 : SB w b 0 (fun x => memB (z0.take 0) x) := hm.congr (fun x => rfl)
  clear hlen hF hS0 hS1 hm
  conv => arg 2; whnf
  go_upto_region 30 with (fail)
  rename_i K2 hK2 K1 hK1
  have HK2 := Lib.hid hK2
  clear hK2
  go_wp2_with fail
  go_loopg [20, 127] n0 (fun k x20 i wr => ∃ j : Nat, k = n0 - j ∧ j ≤ n0 ∧ i = .int .i64 j ∧ SB wr b j (fun x => memB (z0.take j) x) ∧ Hid (Dist z0 j) ∧ Below w0.heap.size w0 wr)
  case atStart => exact ⟨0, rfl, Nat.zero_le _, rfl, hm0, Lib.hid (fun i k hi => absurd hi (Nat.not_lt_zero _)), hb0⟩
  case round =>
    clear hm0 hb0
    obtain ⟨j, hk, hj, rfl, hm, hd, hbl⟩ := hrel
    have KK := Lib.hid hk; clear hk
    by_cases hlt : j < n0
    case pos =>
      have hS0r := HS0.out.later hbl
      rcases hS0r.split with h | ⟨ba, off, rfl, hc⟩
      · exfalso; omega
      have hcj := hc.out j hlt
      have hsj := hS0r.size j
      have hlook := hm.look hsj
      have HDS : Hid (memB (z0.take j) (z0.getD j ByteArray.empty) = false → Dist z0 (j + 1)) := Lib.hid (dist_step (by rw [HL.out]; exact hlt) hd.out)
      have HSN := Lib.hid (fun x => memB_snoc z0 j (by rw [HL.out]; exact hlt) x)
      obtain ⟨w3, hput, hm3, htu⟩ := hm.put (by unfold maxLen; omega) hsj
      have hb3 : Below w0.heap.size w0 w3 := turned_below htu hle hbl hbl.size
      have HM3 := Lib.hid (hm3.congr HSN.out)
      generalize memB (z0.take j) (z0.getD j ByteArray.empty) = mj at hlook HDS
      generalize z0.getD j ByteArray.empty = sj at hcj hsj hlook hput
      have hj0 : (0 : Int) ≤ (j : Int) := by omega
      have hj1 : (j : Int) < (n0 : Int) := by omega
      clear hc hS0r hm hm3 htu
      cases mj with
      | true =>
        go_wp2_with fail
        exact hQ.out _ _ rfl hbl
      | false =>
        go_wp2_with fail
        go_roundg (n0 - (j + 1))
        case measure => rw [KK.out]; omega
        case rel => exact ⟨j + 1, rfl, by omega, by go_num, HM3.out, Lib.hid (HDS.out (by trivial)), hb3⟩
    case neg =>
      obtain rfl : n0 = j := by omega
      go_wp2_with fail
      refine HK2.out _ _ ?_
      exact rest37_any F w0 wr A0 A1 n0 c0 n1 c1 at_ r z0 z1 t Q (by rw [hbl.tape]; exact HF.out) hQ (HS0.out.later hbl) (HS1.out.later strs_kept hbl) hbl hd.out ht hn0 hn1 hat hr HLEN.out _ _ _ _ _ _ _ _ _ _ _ _ _ _ _ _ _ _ _ _ _ _ _ _ _ _ _ _ _ _ _ _ _ _ _ _ _ _ _ _ _ _ _ _ _ _ _ _ _ _ _ _ _ _ _ _ _ _ _ _ _ _ _ _ _ _ _ _ _ _ _ _ _ _ _ _ _ _ _ _ _ _ _ _ _ _ _ _ _ _ _ _ _ _ _ _ _ _ _ _ _ _ _ _ _ _ _ _ _ _
end fnInc
end Go.Proofs.YtlahcemjknffnaaFmt
