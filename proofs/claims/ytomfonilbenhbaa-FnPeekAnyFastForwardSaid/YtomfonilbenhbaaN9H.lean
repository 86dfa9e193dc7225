/-
  One word for all that a law carries from call to call: the lexer, a row of tokens, a set, blocks known whole, and that old memory is kept. Conditions: none.
-/
import Derived.Test.YtomfonilbenhbaaN9C
namespace Go.Proofs.Ytomfonilbenhbaa
open Go.RowKit

def Blks (w : World) (fs : List (Nat × TypeId × Array Value)) : Prop := ∀ x ∈ fs, Blk w x.1 x.2.1 x.2.2
theorem Blks.nil (w : World) : Blks w [] := fun _ h => by cases h

structure Car (w0 w : World) (pb tb mb c nm : Nat) (L : List Tok) (S : Int → Bool) (raw next cur : Int) (rb : Nat) (xs : List Value) (eb en : Nat) (fs : List (Nat × TypeId × Array Value)) : Prop where
  lx : Lx w pb tb mb c nm L S raw next cur
  row : Row w rb 46 xs
  set : BSet Try.prog 42 4 w eb en S
  blks : Blks w fs
  bel : Below w0.heap.size w0 w

section
variable {w0 w w' : World} {pb tb mb c nm rb eb en : Nat} {L : List Tok} {S : Int → Bool} {raw next cur : Int} {xs : List Value} {fs : List (Nat × TypeId × Array Value)}
theorem Car.later (h : Car w0 w pb tb mb c nm L S raw next cur rb xs eb en fs) (hb : Below w.heap.size w w') : Car w0 w' pb tb mb c nm L S raw next cur rb xs eb en fs :=
  ⟨h.lx.later hb, h.row.later hb, h.set.later hb, fun x hx => (h.blks x hx).later hb, below_next hb h.bel⟩
theorem Car.drewN (h : Car w0 w pb tb mb c nm L S raw next cur rb xs eb en fs) (n : Nat) : Car w0 (w.drewN n) pb tb mb c nm L S raw next cur rb xs eb en fs :=
  h.later (below_drewN (Below.refl _ _) n)
theorem Car.drew (h : Car w0 w pb tb mb c nm L S raw next cur rb xs eb en fs) : Car w0 w.drew pb tb mb c nm L S raw next cur rb xs eb en fs := h.later (Below.refl _ _).drew
theorem Car.alloc (h : Car w0 w pb tb mb c nm L S raw next cur rb xs eb en fs) (cs : Array Value) (ty : TypeId) :
    Car w0 (w.alloc (.cells cs ty)) pb tb mb c nm L S raw next cur rb xs eb en ((w.heap.size, ty, cs) :: fs) := by
  refine ⟨h.lx.alloc _, h.row.alloc _, h.set.alloc _, fun x hx => ?_, h.bel.alloc h.bel.size _⟩
  rcases List.mem_cons.1 hx with rfl | hx
  · exact Blk.new w ty cs
  · exact (h.blks x hx).alloc _
theorem Car.grow {raw' next' cur' : Int} (h : Car w0 w pb tb mb c nm L S raw next cur rb xs eb en fs) (hg : w.grownBy w' (some pb)) (hx : Lx w' pb tb mb c nm L S raw' next' cur') (ht : ∀ x ∈ fs, x.2.1 ≠ 52)
    (hp : w0.heap.size ≤ pb) : Car w0 w' pb tb mb c nm L S raw' next' cur' rb xs eb en fs := by
  have h1 : rb ≠ pb := h.row.ne_blk h.lx.blk (by decide)
  have h2 : eb ≠ pb := h.set.ne_blk h.lx.blk
  refine ⟨hx, h.row.grown hg (by simpa using h1), h.set.grown hg (by simpa using h2), fun x hx' => (h.blks x hx').grown hg ?_, h.bel.grown hg h.bel.size (fun k hk => by injection hk with hk; omega)⟩
  have h3 : x.1 ≠ pb := (h.blks x hx').ne h.lx.blk (ht x hx')
  simpa using h3
theorem Car.forget {fs' : List (Nat × TypeId × Array Value)} (h : Car w0 w pb tb mb c nm L S raw next cur rb xs eb en fs) (hs : ∀ x ∈ fs', x ∈ fs) : Car w0 w pb tb mb c nm L S raw next cur rb xs eb en fs' :=
  ⟨h.lx, h.row, h.set, fun x hx => h.blks x (hs x hx), h.bel⟩
end
end Go.Proofs.Ytomfonilbenhbaa
