/- The law FnRGSubtract over arguments as they are read. Conditions: those written at each lemma. -/
import Derived.Test.YtfnogpelaoofbaaDoorSug
import Derived.Test.YtfnogpelaoofbaaDoorOvh
set_option linter.unusedVariables false
set_option linter.unusedSimpArgs false
set_option maxRecDepth 100000
namespace Go.Proofs.YtfnogpelaoofbaaDoor.Rg
open Go.ChangeShapes Go.WideShapes Go.ChangeAt Go.RowKit Go.Proofs.YtfnogpelaoofbaaDoor.B Go.Proofs.YtfnogpelaoofbaaDoor.Sp
theorem law6_raw {H : Type} {enc : TypeId × Value → H} {b0 : Nat} {d1 d2 : DataW H} {p1 p2 : List MemPlace} (v1 v2 : Value) (W : World) (ok1 : Value.okWide Tryd.prog W .any b0 27 v1) (h1 : DataW.Trod enc Tryd.prog W 0 (fun _ => true) true 27 v1 d1 p1)
    (ok2 : Value.okWide Tryd.prog W .any b0 27 v2) (h2 : DataW.Trod enc Tryd.prog W 0 (fun _ => true) true 27 v2 d2 p2) (hT : True) :
    Calls Tryd.prog 6 #[v1, v2] W fun e w' => e = .returned (.bool true) ∧ Below W.heap.size W w' := by
  obtain ⟨c1, rfl⟩ := open_col ok1 h1
  obtain ⟨c2, rfl⟩ := open_col ok2 h2
  exact law6 c1 c2 W
end Go.Proofs.YtfnogpelaoofbaaDoor.Rg
