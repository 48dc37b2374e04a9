/- The listed table of math/bits, opened: what the walks ask. Conditions: the table reads as listed. -/
import Derived.Test.YtbhlhgfgkiclgaaDoorSeg
import Derived.Test.YtbhlhgfgkiclgaaDoorRows
import Derived.MakeChecks
import Derived.LaidMore
import Derived.OpenShut
set_option linter.unusedVariables false
namespace Go.Proofs.YtbhlhgfgkiclgaaDoor.Set
open Go.RowKit Go.Proofs.YtbhlhgfgkiclgaaDoor.B

/-- A variable that is an array of whole numbers, one cell each. -/
theorem arr_cells {H : Type} {enc : TypeId × Value → H} {P : Program} {w : World} {base : Nat} {sp : Nat → Bool} {held : Bool} {fuel : Nat} {t e : TypeId} {n : Nat} {k : IntKind} {cs : List Value} {xs : List Int} {ps : List MemPlace}
    (ht : P.underlying t = some (.array n e)) (he : P.underlying e = some (.int k)) (hc : P.cellsOf e = 1) (h : DataW.trod enc P w base sp held fuel t cs = some (.agg (xs.map fun x => .lit (.int k x)), ps)) :
    ∀ j (hj : j < xs.length), cs[j]? = some (.int k xs[j]) := by
  obtain ⟨ys, m, _, hx, hlen, hn, hel⟩ := DataW.trod_array ht h
  simp only [Prod.mk.injEq, DataW.agg.injEq] at hx
  have hyl : ys.length = xs.length := by have := congrArg List.length hx.1; simpa using this.symm
  intro j hj
  have h1 := hel j (by omega)
  rw [hc, Nat.mul_one, List.getElem?_eq_getElem (show j < ys.length by omega)] at h1
  obtain ⟨q, e1, e2, _⟩ := DataW.trod_int he h1
  have h2 : ys[j].1 = .lit (.int k xs[j]) := by
    have h3 := congrArg (·[j]?) hx.1
    simp only [List.getElem?_map, List.getElem?_eq_getElem hj, List.getElem?_eq_getElem (show j < ys.length by omega), Option.map_some, Option.some.injEq] at h3
    exact h3.symm
  rw [e2] at h2
  injection h2 with h2
  injection h2 with _ h2
  have h4 : (cs.drop j).take 1 = [.int k q] := e1
  have h5 : cs[j]? = some (.int k q) := by
    have h6 := congrArg (·[0]?) h4
    simpa using h6
  rw [h5, h2]

theorem gName : Tryd.prog.globalNamed "math/bits.deBruijn64tab" = some 0 := by kernel_rfl
theorem gType : (Tryd.prog.globals[0]?).map (·.type) = some 76 := by kernel_rfl
theorem tab_of_laid {W : World} (h : laidMetH Tryd.prog Rows.fnISNextRow.laid W) : Tab W := by
  rw [MakeChecks.laidMetH_plain _ _ _ (by kernel_rfl)] at h
  obtain ⟨ps, ⟨g0, t0, cs0, f0, p0, q0, hg0, ht0, hv0, hd0, _, _⟩, _, _⟩ := h
  obtain rfl := Option.some.inj (gName.symm.trans hg0)
  obtain rfl := Option.some.inj (gType.symm.trans ht0)
  have hc := arr_cells (xs := Lib.deBruijn64tab.map fun n : Nat => (n : Int)) Tryd.underlying76 Tryd.underlying5 (by kernel_rfl) hd0
  have hv := fun i => World.var?_cell hg0 hv0 i
  intro j hj
  have hj' : j < (Lib.deBruijn64tab.map fun n : Nat => (n : Int)).length := by simpa using hj
  rw [hv j, ← Array.getElem?_toList, hc j hj']
  rw [List.getElem_map, List.getD_eq_getElem?_getD, List.getElem?_eq_getElem hj]
  rfl

end Go.Proofs.YtbhlhgfgkiclgaaDoor.Set
