/-
  Doubling of '%': what b3escapePct gives, and what fmt makes of it. Conditions: as stated.
-/
import Derived.Test.YtepncdnhcpencaaFmtI2
import Derived.Laws.IdiomStrings
namespace Go.Proofs.YtepncdnhcpencaaFmt
open Go.RowKit Go.Kit Go.Extern.Stop Go.Stop Go.Extern
set_option linter.unusedSimpArgs false
set_option linter.unusedVariables false
namespace fnErrorfEscapedFormatRoundTrip
open fnErrorfPercentS (ba_ext ec pc)
/-- Each '%' doubled. -/
def esc : List UInt8 → List UInt8
  | [] => []
  | c :: r => if c = 37 then 37 :: 37 :: esc r else c :: esc r
theorem esc_snoc (l : List UInt8) (c : UInt8) : esc (l ++ [c]) = esc l ++ (if c = 37 then [37, 37] else [c]) := by
  induction l with
  | nil => by_cases h : c = 37 <;> simp [esc, h]
  | cons d l ih => by_cases h : d = 37 <;> simp [esc, h, ih]
theorem esc_len (l : List UInt8) : (esc l).length ≤ 2 * l.length := by
  induction l with
  | nil => simp [esc]
  | cons d l ih => by_cases h : d = 37 <;> simp [esc, h] <;> omega
theorem walk_esc : ∀ (l : List UInt8) (fuel : Nat), (esc l).length < fuel → FmtDoors.walk 0 fuel 0 (esc l) [] = some ([], 0) := by
  intro l
  induction l with
  | nil =>
    intro fuel h
    obtain ⟨f, rfl⟩ : ∃ f, fuel = f + 1 := ⟨fuel - 1, by omega⟩
    rfl
  | cons c l ih =>
    intro fuel h
    obtain ⟨f, rfl⟩ : ∃ f, fuel = f + 1 := ⟨fuel - 1, by omega⟩
    by_cases hc : c = 37
    · subst hc
      simp only [esc, if_true, List.length_cons] at h ⊢
      have := ih f (by omega)
      simp [FmtDoors.walk, FmtDoors.flags, FmtDoors.number, this]
    · simp only [esc, if_neg hc, List.length_cons] at h ⊢
      have := ih f (by omega)
      rw [FmtDoors.walk]
      simp [hc, this]
theorem printed_esc (s : ByteArray) : FmtStop.printed? ⟨(esc s.data.toList).toArray⟩ 0 = some [] := by
  unfold FmtStop.printed?
  rw [walk_esc _ _ (by simp [ByteArray.size])]
  rfl
theorem parse_esc : ∀ (l : List UInt8) (fuel : Nat), (esc l).length < fuel → FmtText.parseFrom fuel (esc l) = some (l.map fun c => FmtText.Piece.lit [c]) := by
  intro l
  induction l with
  | nil =>
    intro fuel h
    obtain ⟨f, rfl⟩ : ∃ f, fuel = f + 1 := ⟨fuel - 1, by omega⟩
    rfl
  | cons c l ih =>
    intro fuel h
    obtain ⟨f, rfl⟩ : ∃ f, fuel = f + 1 := ⟨fuel - 1, by omega⟩
    by_cases hc : c = 37
    · subst hc
      simp only [esc, if_true, List.length_cons] at h ⊢
      have := ih f (by omega)
      have hd : FmtText.directive (37 :: esc l) = some (.lit [37], esc l) := by
        simp [FmtText.directive, FmtText.flags, FmtText.number]
      rw [FmtText.parseFrom, hd]
      simp [this]
    · simp only [esc, if_neg hc, List.length_cons] at h ⊢
      have := ih f (by omega)
      rw [FmtText.parseFrom]
      · simp [this]
      · exact fun h => hc h
theorem render_lits (l : List UInt8) : FmtText.render false (l.map fun c => FmtText.Piece.lit [c]) [] = some l := by
  induction l with
  | nil => rfl
  | cons c l ih =>
    rw [List.map_cons, FmtText.render_lit, ih]
    rfl
theorem text_esc (l : List UInt8) : FmtText.text "fmt.Sprintf" [esc l] = some l := by
  rw [FmtText.text_sprintf (ps := l.map fun c => FmtText.Piece.lit [c]) (ops := []) (parse_esc l _ (Nat.lt_succ_self _)) FmtText.operands_nil]
  exact render_lits l
/-- The text that Sprintf gives at the format f alone. -/
def told0 (F : Interp) (f : ByteArray) : ByteArray := FmtStop.textOf (F "fmt.Sprintf" [f.data.toList] 0)
theorem told0_is (F : Interp) (s : ByteArray) (hs : s.size ≤ 524288) : told0 F.told ⟨(esc s.data.toList).toArray⟩ = s := by
  have hl : s.data.toList.length ≤ 524288 := by simpa using hs
  have ht := told_string F (text_esc s.data.toList) (by omega)
  refine ba_ext ?_
  unfold told0
  rw [textOf_list]
  exact ht
end fnErrorfEscapedFormatRoundTrip
end Go.Proofs.YtepncdnhcpencaaFmt
