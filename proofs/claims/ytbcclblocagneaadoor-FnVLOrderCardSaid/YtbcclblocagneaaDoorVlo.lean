/- The listed tables of sizes and of encodings, opened for FnVLOrder. Conditions: the tables read as listed. -/
import Derived.Test.YtbcclblocagneaaDoorVlz
import Derived.Test.YtbcclblocagneaaDoorVli
set_option linter.unusedVariables false
namespace Go.Proofs.YtbcclblocagneaaDoor.Vl
open Go.RowKit Go.Proofs.YtbcclblocagneaaDoor.B

theorem gName2 : Tryd.prog.globalNamed "given.example/pub-abaculus/impl.encodings" = some 1 := by kernel_rfl
theorem gType2 : (Tryd.prog.globals[1]?).map (·.type) = some 73 := by kernel_rfl
theorem both_of_laid {W : World} (h : laidMetH Tryd.prog Rows.fnVLOrderRow.laid W) : Sz W ∧ En W := by
  rw [MakeChecks.laidMetH_plain _ _ _ (by kernel_rfl)] at h
  obtain ⟨ps, ⟨g0, t0, cs0, f0, p0, q0, hg0, ht0, hv0, hd0, hrest, _⟩, _, _⟩ := h
  obtain ⟨g1, t1, cs1, f1, p1, q1, hg1, ht1, hv1, hd1, _, _⟩ := hrest
  obtain rfl := Option.some.inj (gName.symm.trans hg0)
  obtain rfl := Option.some.inj (gType.symm.trans ht0)
  obtain rfl := Option.some.inj (gName2.symm.trans hg1)
  obtain rfl := Option.some.inj (gType2.symm.trans ht1)
  have hc := arr_cells (xs := [0, 1, 1, 2, 2, 3, 3, 4, 4, 8, 8, 4, 8, 6, 6]) Tryd.underlying39 Tryd.underlying3 (by kernel_rfl) hd0
  have hv := fun i => World.var?_cell hg0 hv0 i
  have hc1 := arr_cells (xs := [0, 1, 2, 3, 4, 5, 6, 7, 8, 9, 10, 11, 12]) Tryd.underlying73 Tryd.underlying72 (by kernel_rfl) hd1
  have hv1 := fun i => World.var?_cell hg1 hv1 i
  constructor
  · intro j hj
    rw [hv j, ← Array.getElem?_toList, hc j hj]
    have h : ∀ i : Fin 15, ([0, 1, 1, 2, 2, 3, 3, 4, 4, 8, 8, 4, 8, 6, 6] : List Int)[i] = (sz i : Nat) := by decide
    have h2 := h ⟨j, hj⟩
    exact congrArg (fun z => some (Value.int .i64 z)) h2
  · intro j hj
    rw [hv1 j, ← Array.getElem?_toList, hc1 j hj]
    have h : ∀ i : Fin 13, ([0, 1, 2, 3, 4, 5, 6, 7, 8, 9, 10, 11, 12] : List Int)[i] = ((i : Nat) : Int) := by decide
    have h2 := h ⟨j, hj⟩
    exact congrArg (fun z => some (Value.int .u8 z)) h2

end Go.Proofs.YtbcclblocagneaaDoor.Vl
