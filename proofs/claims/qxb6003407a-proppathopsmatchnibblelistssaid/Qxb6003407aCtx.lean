/-
  What the law's own walk carries from statement to statement.
-/
import Derived.Test.Qxb6003407aOut
import Derived.Test.Qxb6003407aCopy
namespace Go.Proofs.Qxb6003407a
open Go.RowKit

/-- The code behind the first statement; behind the first n. -/
def tl : Code → Code
  | .seq _ b => b
  | c => c
def dropC : Nat → Code → Code
  | 0, c => c
  | n + 1, c => dropC n (tl c)

/-- The five slices hold their bytes; the premises hold; nothing that was there has turned. -/
structure Ctx (w W : World) (A L B M K : List Int) (t : Int) (s0 s1 s2 s3 s4 : Value) : Prop where
  i0 : IsB W s0 A
  i1 : IsB W s1 L
  i2 : IsB W s2 B
  i3 : IsB W s3 M
  i4 : IsB W s4 K
  inside : Inside A L B M K t
  t0 : 0 ≤ t
  below : Below w.heap.size w W

theorem Ctx.on {w W W' : World} {A L B M K : List Int} {t : Int} {s0 s1 s2 s3 s4 : Value} (h : Ctx w W A L B M K t s0 s1 s2 s3 s4) (hb : Below W.heap.size W W') : Ctx w W' A L B M K t s0 s1 s2 s3 s4 :=
  ⟨h.i0.below hb, h.i1.below hb, h.i2.below hb, h.i3.below hb, h.i4.below hb, h.inside, h.t0, h.below.trans (hb.mono h.below.size)⟩

end Go.Proofs.Qxb6003407a
