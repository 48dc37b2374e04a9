/- RGOverlaps and RGIntersect, as the thin package has them. Conditions: those written at each lemma. -/
import Derived.Test.YtfnogpelaoofbaaGreatDoorOvl
import Derived.Test.YtfnogpelaoofbaaGreatDoorLaw
import Derived.Test.YtfnogpelaoofbaaGreatDoorMix
import Derived.Test.YtfnogpelaoofbaaGreatDoorRw
import Derived.Deep.Cut
import Derived.Deep.Onto
import Derived.Handy
import Derived.Laws.Rows
set_option linter.unusedVariables false
set_option linter.unusedSimpArgs false
set_option maxRecDepth 100000
set_option maxHeartbeats 4000000
namespace Go.Proofs.YtfnogpelaoofbaaGreatDoor.Rg
open Go.RowKit Go.Proofs.YtfnogpelaoofbaaGreatDoor.B Go.Proofs.YtfnogpelaoofbaaGreatDoor.Sp

theorem heap_old {w : World} {o : Obj} {k : Nat} {x : Obj} (h : w.heap[k]? = some x) : (w.alloc o).heap[k]? = some x := (((Below.refl _ _).alloc (Nat.le_refl _) o : Below w.heap.size w (w.alloc o)).block k (Rv.lt_of_blk h)).trans h
theorem four_blocks (w : World) (x y z u : Obj) : ((((w.alloc x).alloc y).alloc z).alloc u).heap[w.heap.size]? = some x ∧ ((((w.alloc x).alloc y).alloc z).alloc u).heap[w.heap.size + 1]? = some y ∧ ((((w.alloc x).alloc y).alloc z).alloc u).heap[w.heap.size + 1 + 1]? = some z ∧ ((((w.alloc x).alloc y).alloc z).alloc u).heap[w.heap.size + 1 + 1 + 1]? = some u ∧ ((((w.alloc x).alloc y).alloc z).alloc u).heap.size = w.heap.size + 1 + 1 + 1 + 1 := by
  have e1 : (w.alloc x).heap.size = w.heap.size + 1 := by simp
  have e2 : ((w.alloc x).alloc y).heap.size = w.heap.size + 1 + 1 := by simp
  have e3 : (((w.alloc x).alloc y).alloc z).heap.size = w.heap.size + 1 + 1 + 1 := by simp
  refine ⟨heap_old (heap_old (heap_old (heap_alloc_new _ _))), heap_old (heap_old ?_), heap_old ?_, ?_, by simp⟩
  · rw [← e1]; exact heap_alloc_new _ _
  · rw [← e2]; exact heap_alloc_new _ _
  · rw [← e3]; exact heap_alloc_new _ _

end Go.Proofs.YtfnogpelaoofbaaGreatDoor.Rg
