/-
  The walk of FnIncludeApplyRulesSplicesIncludedState. Conditions: F answers the tape.
-/
import Derived.Test.YtlahcemjknffnaaFmtMB
namespace Go.Proofs.YtlahcemjknffnaaFmt
open Go.RowKit Go.Extern.Stop Go.Stop Go.Extern
set_option linter.unusedSimpArgs false
set_option linter.unusedVariables false
namespace fnInc
open fnValidatePush
noncomputable def rest23 : Code := right 6 top
set_option maxHeartbeats 4000000 in
set_option maxRecDepth 1000000 in
theorem rest23_any (F : Interp) (w : World) (A0 A1 : Option Addr) (n0 c0 n1 c1 : Nat) (a2 a3 m : Int) (z0 : List ByteArray) (z1 : List (List ByteArray)) (t : ByteArray) (Q : Exit → Act → World → Prop) (hF : F.answers w.tape)
    (hQ : Hid (∀ (T : Array Value) (w' : World), T.getD 10 undef = .bool true → Below w.heap.size w w' → Q .ret ⟨T, []⟩ w')) (hS0 : Strs w A0 n0 z0) (hS1 : Alts Strs w A1 n1 z1) (ht : t.size ≤ maxLen)
    (hn0 : n0 ≤ 4096) (hn1 : n1 ≤ 4096) (hlen : ∀ i, (z1.getD i []).length ≤ 1048576) (u5 u6 u7 u8 u9 u10 u12 u13 u14 u15 u16 u17 u43 u44 u45 u46 u47 u48 u49 u50 u51 u52 u53 u54 u55 u56 u57 u58 u59 u60 u61 u62 u63 u64 u65 u66 u67 u68 u69 u70 u71 u72 u73 u74 u75 u76 u77 u78 u79 u80 u81 u82 u83 u84 u85 u86 u87 u88 u89 u90 u91 u92 u93 u94 u95 u96 u97 u98 u99 u100 u101 u102 u103 : Value) :
    Code.wp Tryf.prog rest23 Q ⟨#[.slice A0 n0 c0, .slice A1 n1 c1, .int .i64 a2, .int .i64 a3, .string t, u5, u6, u7, u8, u9, u10, .int .i64 m, u12, u13, u14, u15, u16, u17, undef, undef, undef, undef, undef, undef, undef, undef, undef, undef, undef, undef, undef, undef, undef, undef, undef, undef, undef, undef, undef, undef, undef, undef, undef, u43, u44, u45, u46, u47, u48, u49, u50, u51, u52, u53, u54, u55, u56, u57, u58, u59, u60, u61, u62, u63, u64, u65, u66, u67, u68, u69, u70, u71, u72, u73, u74, u75, u76, u77, u78, u79, u80, u81, u82, u83, u84, u85, u86, u87, u88, u89, u90, u91, u92, u93, u94, u95, u96, u97, u98, u99, u100, u101, u102, u103, undef, undef, undef, undef, undef, undef, undef, undef, undef, undef, undef, undef, undef, undef, undef, undef, undef, undef, undef, undef, undef, undef, undef, undef, undef, undef, undef, undef, undef, undef, undef, undef, undef, undef, undef, undef, undef, undef, undef, undef, undef, undef, undef, undef, undef, undef, undef, undef, undef, undef, undef, undef, undef, undef, undef, undef, undef, undef, undef, undef, undef, undef, undef, undef, undef, undef, undef, undef, undef, undef, undef, undef, undef, undef, undef, undef, undef, undef, undef, undef, undef, undef, undef, undef, undef, undef, undef, undef, undef, undef, undef, undef, undef, undef, undef, undef, undef, undef, undef, undef, undef, undef, undef, undef, undef, undef, undef, undef, undef, undef, undef, undef, undef, undef, undef, undef, undef, undef, undef, undef, undef, undef, undef, undef, undef, undef, undef, undef, undef, undef, undef, undef, undef, undef, undef, undef, undef, undef, undef, undef, undef, undef, undef, undef, undef, undef, undef, undef, undef, undef, undef, undef, undef, undef, undef, undef, undef, undef, undef, undef, undef, undef, undef, undef, undef, undef, undef, undef, undef, undef, undef, undef, undef, undef, undef, undef, undef, undef, undef, undef, undef, undef, undef, undef, undef, undef, undef, undef, undef, undef, undef, undef, undef, undef, undef, undef], []⟩ w := by
  have hmm := fun W => makeMap_none (P := Tryf.prog) 34 9 4 Tryf.underlying34 W
  have HLEN := Lib.hid hlen
  have HF := Lib.hid hF
  have HS0 := Lib.hid hS0
  have HS1 := Lib.hid hS1
  clear hlen hF hS0 hS1
  by_cases hmt : 1048576 < m
  case pos =>
    conv => arg 2; whnf
    go_wp2_with fail
    exact hQ.out _ _ rfl (Below.refl _ _)
  by_cases ha0 : 0 ≤ a2
  case neg =>
    conv => arg 2; whnf
    go_wp2_with fail
    all_goals exact hQ.out _ _ rfl (Below.refl _ _)
  obtain ⟨at_, rfl⟩ := Int.eq_ofNat_of_zero_le ha0
  by_cases ha1 : at_ < n0
  case neg =>
    have ha2 : ¬ ((at_ : Int) < (n0 : Int)) := by omega
    conv => arg 2; whnf
    go_wp2_with fail
    all_goals exact hQ.out _ _ rfl (Below.refl _ _)
  have ha2 : (at_ : Int) < (n0 : Int) := by omega
  have HNA := Lib.hid (names_at A1 n1 c1 z1 at_ w HS1.out (by omega))
  by_cases hr0 : 0 ≤ a3
  case neg =>
    conv => arg 2; whnf
    go_wp2_with fail
    all_goals exact hQ.out _ _ rfl (Below.refl _ _)
  obtain ⟨r, rfl⟩ := Int.eq_ofNat_of_zero_le hr0
  conv => arg 2; whnf
  go_wp2_with fail
  refine HNA.out.mono ?_
  rintro e w5 ⟨Ao, no, co, rfl, rfl, hso⟩
  have HSO := Lib.hid hso
  clear hso
  by_cases hr1 : r < no
  case neg =>
    have hr2 : ¬ ((r : Int) < (no : Int)) := by omega
    go_wp2_with fail
    all_goals exact hQ.out _ _ rfl (Below.refl _ _)
  have hr2 : (r : Int) < (no : Int) := by omega
  have hm0 := SB.made w
  have hbm0 : Below w.heap.size w (w.alloc (.map #[] 0)) := (Below.refl _ _).alloc (Nat.le_refl _) _
  go_upto_region 29 with (fail)
  rename_i K2 hK2
  have HK2 := Lib.hid hK2
  clear hK2
  go_wp2_with fail
  refine HK2.out _ _ ?_
  exact rest30_any F w _ A0 A1 n0 c0 n1 c1 at_ r w.heap.size z0 z1 t Q HF.out hQ HS0.out HS1.out hbm0 (Nat.le_refl _) hm0 ht hn0 hn1 ha1 (by rw [HSO.out.1]; exact hr1) HLEN.out _ _ _ _ _ _ _ _ _ _ _ _ _ _ _ _ _ _ _ _ _ _ _ _ _ _ _ _ _ _ _ _ _ _ _ _ _ _ _ _ _ _ _ _ _ _ _ _ _ _ _ _ _ _ _ _ _ _ _ _ _ _ _ _ _ _ _ _ _ _ _ _ _ _ _ _ _ _ _ _ _ _ _ _ _ _ _ _ _ _ _ _ _ _ _ _ _
end fnInc
end Go.Proofs.YtlahcemjknffnaaFmt
