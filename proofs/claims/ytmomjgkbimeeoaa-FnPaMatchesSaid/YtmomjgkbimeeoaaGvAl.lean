/- The reference's Alike of two nodes that hold the same value. -/
import Derived.Test.YtmomjgkbimeeoaaGvTd
namespace Go.Proofs.Ytmomjgkbimeeoaa.G
set_option linter.unusedVariables false
set_option linter.unusedSimpArgs false
open Go.RowKit Go.Proofs.YtmomjgkbimeeoaaW.PrintWords

/-- True is returned. -/
def TrueA (w : World) (e : Ending) (w' : World) : Prop := e = .returned (.bool true) ∧ Below w.heap.size w w'
/-- The two arguments' boxes stand. -/
structure R2 (w wr : World) (bx by' : Obj) : Prop where
  b1 : wr.heap[w.heap.size]? = some bx
  b2 : wr.heap[w.heap.size + 1]? = some by'
  below : Below w.heap.size w wr
theorem R2.start (w : World) (bx by' : Obj) : R2 w ((w.alloc bx).alloc by') bx by' := by
  have s1 : (w.alloc bx).heap.size = w.heap.size + 1 := World.size_alloc _ _
  have h2 := heap_alloc_new (w.alloc bx) by'
  rw [s1] at h2
  refine ⟨?_, h2, below_step (below_alloc1 _) (below_alloc1 _)⟩
  have := (below_alloc1 (w := w.alloc bx) by').block w.heap.size (by omega)
  rw [this]; exact heap_alloc_new _ _
theorem R2.next {w wr w1 : World} {bx by' : Obj} (h : R2 w wr bx by') (hb : Below wr.heap.size wr w1) : R2 w w1 bx by' :=
  ⟨(hb.block _ (Array.getElem?_eq_some_iff.1 h.b1).1).trans h.b1, (hb.block _ (Array.getElem?_eq_some_iff.1 h.b2).1).trans h.b2, below_step h.below hb⟩
end Go.Proofs.Ytmomjgkbimeeoaa.G
