/-
  DERIVED. GIVEN WITH THE SEED: THE CARDS: each row of YtghigcmjldjljaaDoorRows.lean that lists a variable, with what it lists TIED to the program's text (the seventh form; the later family's looks); each row that meets fmt, with fmt's text TOLD by the authors' own Lean function (tested against real Go, not proved from fmt's source: count such statements apart). THE CARD IS WHAT COUNTS. Prove the row's statement (the work); the ties are given (YtghigcmjldjljaaDoorTie.lean); close each card by the builder's one call (the guide's Derived/Test/ToyasCard.lean, 'card_holds'). Laid BY PROGRAM, IN A SANDBOX (cutbox-door.mjs). By AI agents, Wed Nov 11 2026. No macro, syntax, notation, axiom, sorry.
-/
import Derived.Test.YtghigcmjldjljaaDoorRows
import GoSem.ClaimSeven
namespace Go.Proofs.YtghigcmjldjljaaDoor
namespace Rows

/-- THE TIED CARD OF 'laws.FnDYLeap'. -/
def fnDYLeapCard : Claim7 := { stood := { row := fnDYLeapRow, standIns := [], harness := (true, "508af701295f04967f4890306e083406409a49ee21bc7e1416679d9a11a0bdde"), looks := true }, kinds := [], alts := [], laidByText := true, laidKinds := [.data], laidTests := true, laidLooks := .later }
def FnDYLeapCardSaid : Prop := Claim7.holds Tryd.pinned (.plain (OpenSpec.ofChange fnDYLeapSpec)) fnDYLeapCard

/-- THE TIED CARD OF 'laws.FnDYDates'. -/
def fnDYDatesCard : Claim7 := { stood := { row := fnDYDatesRow, standIns := [], harness := (true, "508af701295f04967f4890306e083406409a49ee21bc7e1416679d9a11a0bdde"), looks := true }, kinds := [], alts := [], laidByText := true, laidKinds := [.data], laidTests := true, laidLooks := .later }
def FnDYDatesCardSaid : Prop := Claim7.holds Tryd.pinned (.plain (OpenSpec.ofChange fnDYDatesSpec)) fnDYDatesCard

/-- THE TIED CARD OF 'laws.FnRGTypes'. -/
def fnRGTypesCard : Claim7 := { stood := { row := fnRGTypesRow, standIns := [], harness := (true, "508af701295f04967f4890306e083406409a49ee21bc7e1416679d9a11a0bdde"), looks := true }, kinds := [], alts := [], laidByText := true, laidKinds := [.data], laidTests := true, laidLooks := .later }
def FnRGTypesCardSaid : Prop := Claim7.holds Tryd.pinned (.plain (OpenSpec.ofChange fnRGTypesSpec)) fnRGTypesCard

/-- THE TIED CARD OF 'laws.FnISNext'. -/
def fnISNextCard : Claim7 := { stood := { row := fnISNextRow, standIns := [], harness := (true, "508af701295f04967f4890306e083406409a49ee21bc7e1416679d9a11a0bdde"), looks := true }, kinds := [], alts := [], laidByText := true, laidKinds := [.data], laidTests := true, laidLooks := .later }
def FnISNextCardSaid : Prop := Claim7.holds Tryd.pinned (.plain (OpenSpec.ofChange fnISNextSpec)) fnISNextCard

/-- THE SECOND FORM's CARD OF 'laws.FnDYLeap'. -/
def fnDYLeapUptoCard : Claim7 := { stood := { row := fnDYLeapUptoRow, standIns := [], harness := (true, "508af701295f04967f4890306e083406409a49ee21bc7e1416679d9a11a0bdde"), looks := true }, kinds := [], alts := [], laidByText := true, laidKinds := [.data], laidTests := true, laidLooks := .later }
def FnDYLeapUptoCardSaid : Prop := Claim7.holds Tryd.pinned (.plain (OpenSpec.upto fnDYLeapSpec)) fnDYLeapUptoCard

/-- THE SECOND FORM's CARD OF 'laws.FnDYDates'. -/
def fnDYDatesUptoCard : Claim7 := { stood := { row := fnDYDatesUptoRow, standIns := [], harness := (true, "508af701295f04967f4890306e083406409a49ee21bc7e1416679d9a11a0bdde"), looks := true }, kinds := [], alts := [], laidByText := true, laidKinds := [.data], laidTests := true, laidLooks := .later }
def FnDYDatesUptoCardSaid : Prop := Claim7.holds Tryd.pinned (.plain (OpenSpec.upto fnDYDatesSpec)) fnDYDatesUptoCard

/-- THE SECOND FORM's CARD OF 'laws.FnRGTypes'. -/
def fnRGTypesUptoCard : Claim7 := { stood := { row := fnRGTypesUptoRow, standIns := [], harness := (true, "508af701295f04967f4890306e083406409a49ee21bc7e1416679d9a11a0bdde"), looks := true }, kinds := [], alts := [], laidByText := true, laidKinds := [.data], laidTests := true, laidLooks := .later }
def FnRGTypesUptoCardSaid : Prop := Claim7.holds Tryd.pinned (.plain (OpenSpec.upto fnRGTypesSpec)) fnRGTypesUptoCard

/-- THE SECOND FORM's CARD OF 'laws.FnISNext'. -/
def fnISNextUptoCard : Claim7 := { stood := { row := fnISNextUptoRow, standIns := [], harness := (true, "508af701295f04967f4890306e083406409a49ee21bc7e1416679d9a11a0bdde"), looks := true }, kinds := [], alts := [], laidByText := true, laidKinds := [.data], laidTests := true, laidLooks := .later }
def FnISNextUptoCardSaid : Prop := Claim7.holds Tryd.pinned (.plain (OpenSpec.upto fnISNextSpec)) fnISNextUptoCard
end Rows
end Go.Proofs.YtghigcmjldjljaaDoor
