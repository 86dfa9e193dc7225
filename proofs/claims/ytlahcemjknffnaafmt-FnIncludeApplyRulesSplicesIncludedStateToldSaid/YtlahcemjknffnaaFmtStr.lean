/-
  Plain facts on joining strings with a separator: no program in sight. Conditions: none.
-/
import Derived.Below
namespace Go.Proofs.YtlahcemjknffnaaFmt
set_option linter.unusedVariables false
namespace PS
theorem app_assoc (a b c : ByteArray) : a ++ b ++ c = a ++ (b ++ c) := ByteArray.append_assoc
theorem empty_app (a : ByteArray) : ByteArray.empty ++ a = a := by simp
theorem app_empty (a : ByteArray) : a ++ ByteArray.empty = a := by simp
theorem size_app (a b : ByteArray) : (a ++ b).size = a.size + b.size := by simp
def jn (sep : ByteArray) : ByteArray → List ByteArray → ByteArray
  | acc, [] => acc
  | acc, x :: r => jn sep (acc ++ sep ++ x) r
def join (sep : ByteArray) : List ByteArray → ByteArray
  | [] => ByteArray.empty
  | x :: r => jn sep x r
section
variable {sep : ByteArray}
theorem jn_append (acc : ByteArray) (xs ys : List ByteArray) : jn sep acc (xs ++ ys) = jn sep (jn sep acc xs) ys := by
  induction xs generalizing acc with
  | nil => rfl
  | cons x r ih => exact ih _
theorem jn_left (a b : ByteArray) (xs : List ByteArray) : jn sep (a ++ b) xs = a ++ jn sep b xs := by
  induction xs generalizing b with
  | nil => rfl
  | cons x r ih =>
    show jn sep (a ++ b ++ sep ++ x) r = a ++ jn sep (b ++ sep ++ x) r
    rw [← ih, app_assoc a b sep, app_assoc a (b ++ sep) x]
theorem join_snoc (xs : List ByteArray) (y : ByteArray) (h : xs ≠ []) : join sep (xs ++ [y]) = join sep xs ++ sep ++ y := by
  cases xs with
  | nil => exact absurd rfl h
  | cons x r =>
    show jn sep x (r ++ [y]) = _
    rw [jn_append]; rfl
theorem join_append (xs ys : List ByteArray) (hx : xs ≠ []) (hy : ys ≠ []) : join sep (xs ++ ys) = join sep xs ++ sep ++ join sep ys := by
  cases xs with
  | nil => exact absurd rfl hx
  | cons x r =>
    cases ys with
    | nil => exact absurd rfl hy
    | cons y q =>
      show jn sep x (r ++ y :: q) = jn sep x r ++ sep ++ jn sep y q
      rw [jn_append]
      show jn sep (jn sep x r ++ sep ++ y) q = _
      rw [jn_left]
def tot : List ByteArray → Nat
  | [] => 0
  | x :: r => x.size + 3 + tot r
theorem tot_append (xs ys : List ByteArray) : tot (xs ++ ys) = tot xs + tot ys := by
  induction xs with
  | nil => simp [tot]
  | cons x r ih => simp only [List.cons_append, tot, ih]; omega
theorem tot_take (xs : List ByteArray) (i : Nat) : tot (xs.take i) ≤ tot xs := by
  have := tot_append (xs.take i) (xs.drop i)
  rw [List.take_append_drop] at this
  omega
theorem jn_size (hs : sep.size ≤ 3) (acc : ByteArray) (xs : List ByteArray) : (jn sep acc xs).size ≤ acc.size + tot xs := by
  induction xs generalizing acc with
  | nil => simp [jn, tot]
  | cons x r ih =>
    have := ih (acc ++ sep ++ x)
    simp only [size_app] at this
    show (jn sep (acc ++ sep ++ x) r).size ≤ _
    simp only [tot]; omega
theorem join_size (hs : sep.size ≤ 3) (xs : List ByteArray) : (join sep xs).size ≤ tot xs := by
  cases xs with
  | nil => simp [join, tot]
  | cons x r =>
    have := jn_size hs x r
    show (jn sep x r).size ≤ _
    simp only [tot]; omega
theorem take_snoc (xs : List ByteArray) (i : Nat) (h : i < xs.length) : xs.take (i + 1) = xs.take i ++ [xs.getD i ByteArray.empty] := by
  rw [List.take_succ_eq_append_getElem h, List.getD_eq_getElem?_getD, List.getElem?_eq_getElem h]; rfl
theorem tot_get (xs : List ByteArray) (i : Nat) (h : i < xs.length) : (xs.getD i ByteArray.empty).size ≤ tot xs := by
  have h1 := tot_take xs (i + 1)
  rw [take_snoc xs i h, tot_append] at h1
  simp only [tot] at h1; omega
end
end PS
end Go.Proofs.YtlahcemjknffnaaFmt
