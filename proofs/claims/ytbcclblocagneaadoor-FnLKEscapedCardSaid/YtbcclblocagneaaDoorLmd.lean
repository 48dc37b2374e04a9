/- The listed tables of unicode/utf8 read as the shelf's contracts want them. Conditions: the row's own list. -/
import Derived.Test.YtbcclblocagneaaDoorRows
import Derived.Test.YtbcclblocagneaaDoorLmc
import Derived.Lib.LaidU8
import Derived.MakeChecks
set_option linter.unusedVariables false
set_option maxRecDepth 100000
set_option maxHeartbeats 4000000
namespace Go.Proofs.YtbcclblocagneaaDoor.Lk
open Go.RowKit
theorem accept_eq : (Rows.laid_unicode_utf8_acceptRanges : DataW Unit) = Lib.acceptData := by kernel_rfl
theorem first_eq : Rows.laid_unicode_utf8_first = Lib.firstData := by kernel_rfl
theorem tab_of_laid {W : World} (h : laidMetH Tryd.prog Rows.fnLKEscapedRow.laid W) : Tab W := by
  rw [MakeChecks.laidMetH_plain _ _ _ (by kernel_rfl)] at h
  have h1 := Lib.laidMet.reads h (.head _)
  have h2 := Lib.laidMet.reads h (.tail _ (.head _))
  rw [accept_eq] at h1
  rw [first_eq] at h2
  exact Go.Proofs.utf8Tabs_of_reads (ρ := Tryd.lays260_ren) { Tryd.lays260 with } ⟨by kernel_rfl, by kernel_rfl, by kernel_rfl, by kernel_rfl, by kernel_rfl, by kernel_rfl, by kernel_rfl⟩ h2 h1
end Go.Proofs.YtbcclblocagneaaDoor.Lk
