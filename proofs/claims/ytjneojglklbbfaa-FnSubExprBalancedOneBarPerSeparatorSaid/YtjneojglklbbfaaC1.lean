/-
  Plain facts for FnSubExprBalancedOneBarPerSeparator: the text's parentheses and bars. Conditions: none.
-/
import Derived.Test.YtjneojglklbbfaaB3
namespace Go.Proofs.Ytjneojglklbbfaa
open Go.RowKit
set_option linter.unusedSimpArgs false
set_option linter.unusedVariables false
def cnt (c : UInt8) (s : ByteArray) : Nat := s.data.toList.count c
theorem cnt_app (c : UInt8) (a b : ByteArray) : cnt c (a ++ b) = cnt c a + cnt c b := by
  unfold cnt; rw [PS.app_list, List.count_append]
theorem cnt_zero {c : UInt8} {s : ByteArray} : cnt c s = 0 ↔ c ∉ s.data.toList := List.count_eq_zero
def cntL (c : UInt8) : List ByteArray → Nat
  | [] => 0
  | x :: r => cnt c x + cntL c r
theorem cnt_jn (c : UInt8) (sep acc : ByteArray) (xs : List ByteArray) : cnt c (PS.jn sep acc xs) = cnt c acc + xs.length * cnt c sep + cntL c xs := by
  induction xs generalizing acc with
  | nil => simp [PS.jn, cntL]
  | cons x r ih =>
    rw [PS.jn, ih, cnt_app, cnt_app]
    simp only [List.length_cons, cntL, Nat.add_mul, Nat.one_mul]
    omega
theorem cnt_join (c : UInt8) (sep : ByteArray) (xs : List ByteArray) : cnt c (PS.join sep xs) = (xs.length - 1) * cnt c sep + cntL c xs := by
  cases xs with
  | nil => simp [PS.join, cntL]; rfl
  | cons x r =>
    show cnt c (PS.jn sep x r) = _
    rw [cnt_jn]
    simp only [List.length_cons, cntL, Nat.add_sub_cancel]
    omega
theorem cntL_zero {c : UInt8} {xs : List ByteArray} (h : ∀ x ∈ xs, cnt c x = 0) : cntL c xs = 0 := by
  induction xs with
  | nil => rfl
  | cons x r ih => simp only [cntL]; rw [h x (by simp), ih (fun y hy => h y (by simp [hy]))]
/-- A name without a parenthesis or a bar. -/
def NoSp (s : ByteArray) : Prop := cnt 40 s = 0 ∧ cnt 41 s = 0 ∧ cnt 124 s = 0
theorem nmText_nosp {z : List ByteArray} (h : ∀ x ∈ z, NoSp x) : NoSp (nmText z) := by
  unfold nmText NoSp
  refine ⟨?_, ?_, ?_⟩
  · rw [cnt_join, cntL_zero (fun x hx => (h x hx).1), show cnt 40 ⟨#[32]⟩ = 0 from rfl]; simp
  · rw [cnt_join, cntL_zero (fun x hx => (h x hx).2.1), show cnt 41 ⟨#[32]⟩ = 0 from rfl]; simp
  · rw [cnt_join, cntL_zero (fun x hx => (h x hx).2.2), show cnt 124 ⟨#[32]⟩ = 0 from rfl]; simp
theorem body_cnt {z : List (List ByteArray)} (h : ∀ a ∈ z, ∀ x ∈ a, NoSp x) :
    cnt 40 (PS.join ⟨#[32, 124, 32]⟩ (z.map nmText)) = 0 ∧ cnt 41 (PS.join ⟨#[32, 124, 32]⟩ (z.map nmText)) = 0 ∧ cnt 124 (PS.join ⟨#[32, 124, 32]⟩ (z.map nmText)) = z.length - 1 := by
  have h1 : ∀ y ∈ z.map nmText, NoSp y := fun y hy => by
    obtain ⟨a, ha, rfl⟩ := List.mem_map.1 hy
    exact nmText_nosp (h a ha)
  refine ⟨?_, ?_, ?_⟩
  · rw [cnt_join, cntL_zero (fun x hx => (h1 x hx).1), show cnt 40 ⟨#[32, 124, 32]⟩ = 0 from rfl]; simp
  · rw [cnt_join, cntL_zero (fun x hx => (h1 x hx).2.1), show cnt 41 ⟨#[32, 124, 32]⟩ = 0 from rfl]; simp
  · rw [cnt_join, cntL_zero (fun x hx => (h1 x hx).2.2), show cnt 124 ⟨#[32, 124, 32]⟩ = 1 from rfl]; simp
theorem ofNat_ne {n : Nat} {c : UInt8} (h : n % 256 ≠ c.toNat) : ¬ UInt8.ofNat n = c := by
  intro e
  apply h
  rw [← e]; simp
theorem cnt_enc {la : Int} {c : UInt8} (hc : c.toNat < 128) (h : la ≠ c.toNat) : cnt c (Utf8.encode la) = 0 := by
  rw [cnt_zero]
  unfold Utf8.encode
  by_cases hv : Utf8.valid la = true
  · have hv' := hv
    unfold Utf8.valid at hv'
    simp at hv'
    have h0 : 0 ≤ la := by omega
    simp only [hv, if_true]
    split
    · intro e
      simp at e
      have := congrArg UInt8.toNat e
      simp at this
      omega
    · split
      · intro e
        simp at e
        rcases e with e | e <;> (have := congrArg UInt8.toNat e; simp at this; omega)
      · split
        · intro e
          simp at e
          rcases e with e | e | e <;> (have := congrArg UInt8.toNat e; simp at this; omega)
        · intro e
          simp at e
          rcases e with e | e | e | e <;> (have := congrArg UInt8.toNat e; simp at this; omega)
  · have e : Utf8.valid la = false := by simpa using hv
    simp only [e, Bool.false_eq_true, if_false, Utf8.runeError]
    intro e
    simp at e
    rcases e with e | e | e <;> (have := congrArg UInt8.toNat e; simp at this; omega)
theorem enc_size (la : Int) : (Utf8.encode la).size ≤ 4 := by
  unfold Utf8.encode
  dsimp only
  split
  · split
    · show 1 ≤ 4; omega
    · split
      · show 2 ≤ 4; omega
      · split
        · show 3 ≤ 4; omega
        · show 4 ≤ 4; omega
  · show 3 ≤ 4; omega
/-- A group's text: a parenthesis, what holds none and n bars, a parenthesis. -/
def GroupText (out : ByteArray) (n : Nat) : Prop := ∃ m : ByteArray, out = (⟨#[40]⟩ : ByteArray) ++ m ++ ⟨#[41]⟩ ∧ cnt 40 m = 0 ∧ cnt 41 m = 0 ∧ cnt 124 m = n
def bars (s : ByteArray) (i : Nat) : Nat := (s.data.toList.take i).count 124
theorem bars_step (s : ByteArray) (i : Nat) (h : i < s.size) : bars s (i + 1) = bars s i + (if s[i] = 124 then 1 else 0) := by
  unfold bars
  rw [PS.take_snoc8 s i h, List.count_append]
  congr 1
  simp [List.count_cons]
theorem bars_full (s : ByteArray) : bars s s.size = cnt 124 s := by
  unfold bars cnt
  rw [List.take_of_length_le (by simp)]
theorem bars_le (s : ByteArray) (i : Nat) : bars s i ≤ s.size := by
  unfold bars
  have h1 := List.count_le_length (a := (124 : UInt8)) (l := s.data.toList.take i)
  have h2 : (s.data.toList.take i).length ≤ s.size := by rw [List.length_take]; simp; omega
  omega
theorem GroupText.facts {out : ByteArray} {n : Nat} (h : GroupText out n) : 2 ≤ out.size ∧ (∀ h0 : 0 < out.size, out[0] = 40) ∧ (∀ (i : Nat) (hi : i < out.size), i + 1 = out.size → out[i] = 41) ∧
    (∀ (i : Nat) (hi : i < out.size), 0 < i → i + 1 < out.size → ¬ out[i] = 40 ∧ ¬ out[i] = 41) ∧ bars out out.size = n := by
  obtain ⟨m, rfl, h1, h2, h3⟩ := h
  have hs : ((⟨#[40]⟩ : ByteArray) ++ m ++ ⟨#[41]⟩).size = m.size + 2 := by
    rw [PS.size_app, PS.size_app]; show 1 + m.size + 1 = _; omega
  have hl : ((⟨#[40]⟩ : ByteArray) ++ m ++ ⟨#[41]⟩).data.toList = 40 :: (m.data.toList ++ [41]) := by
    rw [PS.app_list, PS.app_list]; rfl
  have hml : m.data.toList.length = m.size := by simp
  have hg : ∀ (i : Nat) (hi : i < ((⟨#[40]⟩ : ByteArray) ++ m ++ ⟨#[41]⟩).size), (40 :: (m.data.toList ++ [41]))[i]? = some (((⟨#[40]⟩ : ByteArray) ++ m ++ ⟨#[41]⟩)[i]) := by
    intro i hi
    rw [← hl, ← PS.get_list _ i hi, List.getElem?_eq_getElem]
  refine ⟨by omega, fun h0 => ?_, fun i hi he => ?_, fun i hi h0 h1' => ?_, ?_⟩
  · have := hg 0 h0
    simpa using this.symm
  · have := hg i hi
    obtain ⟨k, rfl⟩ : ∃ k, i = k + 1 := ⟨i - 1, by omega⟩
    rw [List.getElem?_cons_succ, List.getElem?_append_right (by omega)] at this
    have e : k - m.data.toList.length = 0 := by omega
    rw [e] at this
    simpa using this.symm
  · have := hg i hi
    obtain ⟨k, rfl⟩ : ∃ k, i = k + 1 := ⟨i - 1, by omega⟩
    rw [List.getElem?_cons_succ, List.getElem?_append_left (by omega)] at this
    have hm := List.mem_of_getElem? this
    exact ⟨fun e => cnt_zero.1 h1 (e ▸ hm), fun e => cnt_zero.1 h2 (e ▸ hm)⟩
  · rw [bars_full, cnt_app, cnt_app, h3, show cnt 124 ⟨#[40]⟩ = 0 from rfl, show cnt 124 ⟨#[41]⟩ = 0 from rfl]; omega
theorem group_plain {s : ByteArray} {n : Nat} (h1 : cnt 40 s = 0) (h2 : cnt 41 s = 0) (h3 : cnt 124 s = n) : GroupText ((⟨#[40]⟩ : ByteArray) ++ (s ++ ⟨#[41]⟩)) n := ⟨s, by rw [PS.app_assoc], h1, h2, h3⟩
theorem group_look {s t : ByteArray} {n : Nat} (h1 : cnt 40 s = 0) (h2 : cnt 41 s = 0) (h3 : cnt 124 s = n) (t1 : cnt 40 t = 0) (t2 : cnt 41 t = 0) (t3 : cnt 124 t = 0) :
    GroupText ((⟨#[40]⟩ : ByteArray) ++ ((⟨#[63]⟩ : ByteArray) ++ t) ++ (s ++ ⟨#[41]⟩)) n := by
  refine ⟨(⟨#[63]⟩ : ByteArray) ++ t ++ s, ?_, ?_, ?_, ?_⟩
  · simp only [PS.app_assoc]
  · rw [cnt_app, cnt_app, t1, h1]; rfl
  · rw [cnt_app, cnt_app, t2, h2]; rfl
  · rw [cnt_app, cnt_app, t3, h3, show cnt 124 ⟨#[63]⟩ = 0 from rfl]; omega
end Go.Proofs.Ytjneojglklbbfaa
