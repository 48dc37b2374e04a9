/-
  DERIVED. GIVEN WITH THE SEED: THE CARDS: each row of YtfnogpelaoofbaaGreatDoorRows.lean that lists a variable, with what it lists TIED to the program's text (the seventh form; the later family's looks); each row that meets fmt, with fmt's text TOLD by the authors' own Lean function (tested against real Go, not proved from fmt's source: count such statements apart). THE CARD IS WHAT COUNTS. Prove the row's statement (the work); the ties are given (YtfnogpelaoofbaaGreatDoorTie.lean); close each card by the builder's one call (the guide's Derived/Test/ToyasCard.lean, 'card_holds'). Laid BY PROGRAM, IN A SANDBOX (cutbox-door.mjs). By AI agents, Wed Nov 11 2026. No macro, syntax, notation, axiom, sorry.
-/
import Derived.Test.YtfnogpelaoofbaaGreatDoorRows
import GoSem.ClaimSeven
namespace Go.Proofs.YtfnogpelaoofbaaGreatDoor
namespace Rows

/-- THE TIED CARD OF 'laws.FnRRRemoves'. -/
def fnRRRemovesCard : Claim7 := { stood := { row := fnRRRemovesRow, standIns := [], harness := (true, "00a5f62ee6db2b90da85ea637368487b3be69b5b97a48d9b6ff50ecbc41c620c"), looks := true }, kinds := [], alts := [], laidByText := true, laidKinds := [.data], laidTests := true, laidLooks := .later }
def FnRRRemovesCardSaid : Prop := Claim7.holds Tryz.pinned (.plain (OpenSpec.ofChange fnRRRemovesSpec)) fnRRRemovesCard

/-- THE TIED CARD OF 'laws.FnRRBoth'. -/
def fnRRBothCard : Claim7 := { stood := { row := fnRRBothRow, standIns := [], harness := (true, "00a5f62ee6db2b90da85ea637368487b3be69b5b97a48d9b6ff50ecbc41c620c"), looks := true }, kinds := [], alts := [], laidByText := true, laidKinds := [.data], laidTests := true, laidLooks := .later }
def FnRRBothCardSaid : Prop := Claim7.holds Tryz.pinned (.plain (OpenSpec.ofChange fnRRBothSpec)) fnRRBothCard

/-- THE TIED CARD OF 'laws.FnRTRuns'. -/
def fnRTRunsCard : Claim7 := { stood := { row := fnRTRunsRow, standIns := [], harness := (true, "00a5f62ee6db2b90da85ea637368487b3be69b5b97a48d9b6ff50ecbc41c620c"), looks := true }, kinds := [], alts := [], laidByText := true, laidKinds := [.data], laidTests := true, laidLooks := .later }
def FnRTRunsCardSaid : Prop := Claim7.holds Tryz.pinned (.plain (OpenSpec.ofChange fnRTRunsSpec)) fnRTRunsCard

/-- THE SECOND FORM's CARD OF 'laws.FnRRRemoves'. -/
def fnRRRemovesUptoCard : Claim7 := { stood := { row := fnRRRemovesUptoRow, standIns := [], harness := (true, "00a5f62ee6db2b90da85ea637368487b3be69b5b97a48d9b6ff50ecbc41c620c"), looks := true }, kinds := [], alts := [], laidByText := true, laidKinds := [.data], laidTests := true, laidLooks := .later }
def FnRRRemovesUptoCardSaid : Prop := Claim7.holds Tryz.pinned (.plain (OpenSpec.upto fnRRRemovesSpec)) fnRRRemovesUptoCard

/-- THE SECOND FORM's CARD OF 'laws.FnRRBoth'. -/
def fnRRBothUptoCard : Claim7 := { stood := { row := fnRRBothUptoRow, standIns := [], harness := (true, "00a5f62ee6db2b90da85ea637368487b3be69b5b97a48d9b6ff50ecbc41c620c"), looks := true }, kinds := [], alts := [], laidByText := true, laidKinds := [.data], laidTests := true, laidLooks := .later }
def FnRRBothUptoCardSaid : Prop := Claim7.holds Tryz.pinned (.plain (OpenSpec.upto fnRRBothSpec)) fnRRBothUptoCard

/-- THE SECOND FORM's CARD OF 'laws.FnRTRuns'. -/
def fnRTRunsUptoCard : Claim7 := { stood := { row := fnRTRunsUptoRow, standIns := [], harness := (true, "00a5f62ee6db2b90da85ea637368487b3be69b5b97a48d9b6ff50ecbc41c620c"), looks := true }, kinds := [], alts := [], laidByText := true, laidKinds := [.data], laidTests := true, laidLooks := .later }
def FnRTRunsUptoCardSaid : Prop := Claim7.holds Tryz.pinned (.plain (OpenSpec.upto fnRTRunsSpec)) fnRTRunsUptoCard
end Rows
end Go.Proofs.YtfnogpelaoofbaaGreatDoor
