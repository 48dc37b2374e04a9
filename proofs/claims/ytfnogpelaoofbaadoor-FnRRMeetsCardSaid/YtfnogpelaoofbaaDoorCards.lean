/-
  DERIVED. GIVEN WITH THE SEED: THE CARDS: each row of YtfnogpelaoofbaaDoorRows.lean that lists a variable, with what it lists TIED to the program's text (the seventh form; the later family's looks); each row that meets fmt, with fmt's text TOLD by the authors' own Lean function (tested against real Go, not proved from fmt's source: count such statements apart). THE CARD IS WHAT COUNTS. Prove the row's statement (the work); the ties are given (YtfnogpelaoofbaaDoorTie.lean); close each card by the builder's one call (the guide's Derived/Test/ToyasCard.lean, 'card_holds'). Laid BY PROGRAM, IN A SANDBOX (cutbox-door.mjs). By AI agents, Wed Nov 11 2026. No macro, syntax, notation, axiom, sorry.
-/
import Derived.Test.YtfnogpelaoofbaaDoorRows
import GoSem.ClaimSeven
namespace Go.Proofs.YtfnogpelaoofbaaDoor
namespace Rows

/-- THE TIED CARD OF 'laws.FnRGTypes'. -/
def fnRGTypesCard : Claim7 := { stood := { row := fnRGTypesRow, standIns := [], harness := (true, "e1729c75eb2e9304c05f7c19781cb411427190bfa939e8a912180365570aaef8"), looks := true }, kinds := [], alts := [], laidByText := true, laidKinds := [.data], laidTests := true, laidLooks := .later }
def FnRGTypesCardSaid : Prop := Claim7.holds Tryd.pinned (.plain (OpenSpec.ofChange fnRGTypesSpec)) fnRGTypesCard

/-- THE TIED CARD OF 'laws.FnRGMade'. -/
def fnRGMadeCard : Claim7 := { stood := { row := fnRGMadeRow, standIns := [], harness := (true, "e1729c75eb2e9304c05f7c19781cb411427190bfa939e8a912180365570aaef8"), looks := true }, kinds := [], alts := [], laidByText := true, laidKinds := [.data], laidTests := true, laidLooks := .later }
def FnRGMadeCardSaid : Prop := Claim7.holds Tryd.pinned (.plain (OpenSpec.ofChange fnRGMadeSpec)) fnRGMadeCard

/-- THE TIED CARD OF 'laws.FnRGMeets'. -/
def fnRGMeetsCard : Claim7 := { stood := { row := fnRGMeetsRow, standIns := [], harness := (true, "e1729c75eb2e9304c05f7c19781cb411427190bfa939e8a912180365570aaef8"), looks := true }, kinds := [], alts := [], laidByText := true, laidKinds := [.data], laidTests := true, laidLooks := .later }
def FnRGMeetsCardSaid : Prop := Claim7.holds Tryd.pinned (.plain (OpenSpec.ofChange fnRGMeetsSpec)) fnRGMeetsCard

/-- THE TIED CARD OF 'laws.FnRGSubtract'. -/
def fnRGSubtractCard : Claim7 := { stood := { row := fnRGSubtractRow, standIns := [], harness := (true, "e1729c75eb2e9304c05f7c19781cb411427190bfa939e8a912180365570aaef8"), looks := true }, kinds := [], alts := [], laidByText := true, laidKinds := [.data], laidTests := true, laidLooks := .later }
def FnRGSubtractCardSaid : Prop := Claim7.holds Tryd.pinned (.plain (OpenSpec.ofChange fnRGSubtractSpec)) fnRGSubtractCard

/-- THE TIED CARD OF 'laws.FnRRMeets'. -/
def fnRRMeetsCard : Claim7 := { stood := { row := fnRRMeetsRow, standIns := [], harness := (true, "e1729c75eb2e9304c05f7c19781cb411427190bfa939e8a912180365570aaef8"), looks := true }, kinds := [], alts := [], laidByText := true, laidKinds := [.data], laidTests := true, laidLooks := .later }
def FnRRMeetsCardSaid : Prop := Claim7.holds Tryd.pinned (.plain (OpenSpec.ofChange fnRRMeetsSpec)) fnRRMeetsCard

/-- THE SECOND FORM's CARD OF 'laws.FnRGTypes'. -/
def fnRGTypesUptoCard : Claim7 := { stood := { row := fnRGTypesUptoRow, standIns := [], harness := (true, "e1729c75eb2e9304c05f7c19781cb411427190bfa939e8a912180365570aaef8"), looks := true }, kinds := [], alts := [], laidByText := true, laidKinds := [.data], laidTests := true, laidLooks := .later }
def FnRGTypesUptoCardSaid : Prop := Claim7.holds Tryd.pinned (.plain (OpenSpec.upto fnRGTypesSpec)) fnRGTypesUptoCard

/-- THE SECOND FORM's CARD OF 'laws.FnRGMade'. -/
def fnRGMadeUptoCard : Claim7 := { stood := { row := fnRGMadeUptoRow, standIns := [], harness := (true, "e1729c75eb2e9304c05f7c19781cb411427190bfa939e8a912180365570aaef8"), looks := true }, kinds := [], alts := [], laidByText := true, laidKinds := [.data], laidTests := true, laidLooks := .later }
def FnRGMadeUptoCardSaid : Prop := Claim7.holds Tryd.pinned (.plain (OpenSpec.upto fnRGMadeSpec)) fnRGMadeUptoCard

/-- THE SECOND FORM's CARD OF 'laws.FnRGMeets'. -/
def fnRGMeetsUptoCard : Claim7 := { stood := { row := fnRGMeetsUptoRow, standIns := [], harness := (true, "e1729c75eb2e9304c05f7c19781cb411427190bfa939e8a912180365570aaef8"), looks := true }, kinds := [], alts := [], laidByText := true, laidKinds := [.data], laidTests := true, laidLooks := .later }
def FnRGMeetsUptoCardSaid : Prop := Claim7.holds Tryd.pinned (.plain (OpenSpec.upto fnRGMeetsSpec)) fnRGMeetsUptoCard

/-- THE SECOND FORM's CARD OF 'laws.FnRGSubtract'. -/
def fnRGSubtractUptoCard : Claim7 := { stood := { row := fnRGSubtractUptoRow, standIns := [], harness := (true, "e1729c75eb2e9304c05f7c19781cb411427190bfa939e8a912180365570aaef8"), looks := true }, kinds := [], alts := [], laidByText := true, laidKinds := [.data], laidTests := true, laidLooks := .later }
def FnRGSubtractUptoCardSaid : Prop := Claim7.holds Tryd.pinned (.plain (OpenSpec.upto fnRGSubtractSpec)) fnRGSubtractUptoCard

/-- THE SECOND FORM's CARD OF 'laws.FnRRMeets'. -/
def fnRRMeetsUptoCard : Claim7 := { stood := { row := fnRRMeetsUptoRow, standIns := [], harness := (true, "e1729c75eb2e9304c05f7c19781cb411427190bfa939e8a912180365570aaef8"), looks := true }, kinds := [], alts := [], laidByText := true, laidKinds := [.data], laidTests := true, laidLooks := .later }
def FnRRMeetsUptoCardSaid : Prop := Claim7.holds Tryd.pinned (.plain (OpenSpec.upto fnRRMeetsSpec)) fnRRMeetsUptoCard
end Rows
end Go.Proofs.YtfnogpelaoofbaaDoor
