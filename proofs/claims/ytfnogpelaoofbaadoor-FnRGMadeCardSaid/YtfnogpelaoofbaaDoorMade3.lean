/- FnRGMade: either order of the two keys. Conditions: those written at each lemma. -/
import Derived.Test.YtfnogpelaoofbaaDoorLe
import Derived.Test.YtfnogpelaoofbaaDoorGt
import Derived.Test.YtfnogpelaoofbaaDoorRows
set_option linter.unusedVariables false
set_option linter.unusedSimpArgs false
namespace Go.Proofs.YtfnogpelaoofbaaDoor.Rg
open Go.RowKit Go.Proofs.YtfnogpelaoofbaaDoor.B
theorem laid_true4 {W : World} (h : laidMetH Tryd.prog Rows.fnRGMadeRow.laid W) : True := trivial
theorem madeLaw_any (kind one two : Int) (w : World) (w0 : (Lit.int .u8 kind).wf = true) (w1 : (Lit.int .i8 one).wf = true) (w2 : (Lit.int .i8 two).wf = true) (hl : True) :
    Calls Tryd.prog 4 #[.int .u8 kind, .int .i8 one, .int .i8 two] w fun e w' => e = .returned (.bool true) ∧ Below w.heap.size w w' := by
  obtain ⟨a0, a1⟩ := bounds_u8 w0
  obtain ⟨b0, b1⟩ := bounds_i8 w1
  obtain ⟨c0, c1⟩ := bounds_i8 w2
  by_cases h : one.tmod 21 ≤ two.tmod 21
  · exact made_le kind one two w (by omega) (by omega) (by omega) (by omega) (by omega) (by omega) h
  · exact made_gt kind one two w (by omega) (by omega) (by omega) (by omega) (by omega) (by omega) (by omega)
end Go.Proofs.YtfnogpelaoofbaaDoor.Rg
