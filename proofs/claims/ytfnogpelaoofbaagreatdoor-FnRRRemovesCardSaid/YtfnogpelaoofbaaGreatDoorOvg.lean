/- FnRGMeets: for whatever two ranges the law returns true. Conditions: those written at each lemma. -/
import Derived.Test.YtfnogpelaoofbaaGreatDoorOvf
set_option linter.unusedVariables false
set_option linter.unusedSimpArgs false
set_option maxRecDepth 100000
set_option maxHeartbeats 4000000
namespace Go.Proofs.YtfnogpelaoofbaaGreatDoor.Rg
open Go.RowKit Go.Proofs.YtfnogpelaoofbaaGreatDoor.B Go.Proofs.YtfnogpelaoofbaaGreatDoor.Sp

abbrev cl4 (c : Cl) : Obj := .cells #[.int .i64 c.a, .int .i64 c.x, .int .i64 c.b, .int .i64 c.y] 54
theorem blk_keep {W W1 : World} {g : Nat} {o : Obj} (h : W.heap[g]? = some o) (hb : Below W.heap.size W W1) : W1.heap[g]? = some o := (hb.block _ (Rv.lt_of_blk h)).trans h
/-- Ranges that lie in blocks of their own. -/
def Ms (B : Nat) (w W : World) (L : List (Nat × Cl)) : Prop := (∀ p ∈ L, W.heap[p.1]? = some (cl4 p.2)) ∧ Below B w W ∧ B ≤ W.heap.size
theorem Ms.keep {B : Nat} {w W W1 : World} {L : List (Nat × Cl)} (h : Ms B w W L) (hb : Below W.heap.size W W1) : Ms B w W1 L :=
  ⟨fun p hp => blk_keep (h.1 p hp) hb, h.2.1.trans (hb.mono h.2.2), Nat.le_trans h.2.2 hb.size⟩
theorem Ms.push {B : Nat} {w W : World} {L : List (Nat × Cl)} (h : Ms B w W L) (c : Cl) : Ms B w (W.alloc (cl4 c)) ((W.heap.size, c) :: L) := by
  have k := h.keep ((Below.refl _ _).alloc (Nat.le_refl _) (cl4 c))
  refine ⟨fun p hp => ?_, k.2⟩
  rcases List.mem_cons.1 hp with rfl | hp
  · exact heap_alloc_new _ _
  · exact k.1 p hp
theorem Ms.get {B : Nat} {w W : World} {L : List (Nat × Cl)} (h : Ms B w W L) (g : Nat) (c : Cl) (hm : (g, c) ∈ L) :
    W.cell? ⟨g, 0, none⟩ = some (.int .i64 c.a) ∧ W.cell? ⟨g, 1, none⟩ = some (.int .i64 c.x) ∧ W.cell? ⟨g, 2, none⟩ = some (.int .i64 c.b) ∧ W.cell? ⟨g, 3, none⟩ = some (.int .i64 c.y) ∧ g < W.heap.size := by
  have hb := h.1 _ hm
  obtain ⟨a, b, c, d⟩ := Rv.cells4 hb
  exact ⟨a, b, c, d, Rv.lt_of_blk hb⟩
end Go.Proofs.YtfnogpelaoofbaaGreatDoor.Rg
