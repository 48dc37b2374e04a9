/-
  DERIVED. GIVEN WITH THE SEED: THE CARDS: each row of YtmelgankbegjaaaGreatDoorRows.lean that lists a variable, with what it lists TIED to the program's text (the seventh form; the later family's looks); each row that meets fmt, with fmt's text TOLD by the authors' own Lean function (tested against real Go, not proved from fmt's source: count such statements apart). THE CARD IS WHAT COUNTS. Prove the row's statement (the work); the ties are given (YtmelgankbegjaaaGreatDoorTie.lean); close each card by the builder's one call (the guide's Derived/Test/ToyasCard.lean, 'card_holds'). Laid BY PROGRAM, IN A SANDBOX (cutbox-door.mjs). By AI agents, Wed Nov 11 2026. No macro, syntax, notation, axiom, sorry.
-/
import Derived.Test.YtmelgankbegjaaaGreatDoorRows
import GoSem.ClaimSeven
namespace Go.Proofs.YtmelgankbegjaaaGreatDoor
namespace Rows

/-- THE TIED CARD OF 'laws.FnJSSet'. -/
def fnJSSetCard : Claim7 := { stood := { row := fnJSSetRow, standIns := [], harness := (true, "86861f665650765426c1abbbdea1523588b5e9a221e4e423eb87567ae80e110e"), looks := true }, kinds := [], alts := [], laidByText := true, laidKinds := [.data, .data, .data, .data, .sentinel, .sentinel, .listed, .data, .data, .pinned], laidTests := true, laidLooks := .later }
def FnJSSetCardSaid : Prop := Claim7.holds Tryz.pinned (.plain (OpenSpec.ofChange fnJSSetSpec)) fnJSSetCard

/-- THE TIED CARD OF 'laws.FnJSAppend'. -/
def fnJSAppendCard : Claim7 := { stood := { row := fnJSAppendRow, standIns := [], harness := (true, "86861f665650765426c1abbbdea1523588b5e9a221e4e423eb87567ae80e110e"), looks := true }, kinds := [], alts := [], laidByText := true, laidKinds := [.data, .data, .data, .data, .sentinel, .sentinel, .listed, .data, .data, .pinned], laidTests := true, laidLooks := .later }
def FnJSAppendCardSaid : Prop := Claim7.holds Tryz.pinned (.plain (OpenSpec.ofChange fnJSAppendSpec)) fnJSAppendCard

/-- THE TIED CARD OF 'laws.FnJSReplace'. -/
def fnJSReplaceCard : Claim7 := { stood := { row := fnJSReplaceRow, standIns := [], harness := (true, "86861f665650765426c1abbbdea1523588b5e9a221e4e423eb87567ae80e110e"), looks := true }, kinds := [], alts := [], laidByText := true, laidKinds := [.data, .data, .data, .data, .sentinel, .sentinel, .listed, .data, .data, .pinned], laidTests := true, laidLooks := .later }
def FnJSReplaceCardSaid : Prop := Claim7.holds Tryz.pinned (.plain (OpenSpec.ofChange fnJSReplaceSpec)) fnJSReplaceCard

/-- THE SECOND FORM's CARD OF 'laws.FnJSSet'. -/
def fnJSSetUptoCard : Claim7 := { stood := { row := fnJSSetUptoRow, standIns := [], harness := (true, "86861f665650765426c1abbbdea1523588b5e9a221e4e423eb87567ae80e110e"), looks := true }, kinds := [], alts := [], laidByText := true, laidKinds := [.data, .data, .data, .data, .sentinel, .sentinel, .listed, .data, .data, .pinned], laidTests := true, laidLooks := .later }
def FnJSSetUptoCardSaid : Prop := Claim7.holds Tryz.pinned (.plain (OpenSpec.upto fnJSSetSpec)) fnJSSetUptoCard

/-- THE SECOND FORM's CARD OF 'laws.FnJSAppend'. -/
def fnJSAppendUptoCard : Claim7 := { stood := { row := fnJSAppendUptoRow, standIns := [], harness := (true, "86861f665650765426c1abbbdea1523588b5e9a221e4e423eb87567ae80e110e"), looks := true }, kinds := [], alts := [], laidByText := true, laidKinds := [.data, .data, .data, .data, .sentinel, .sentinel, .listed, .data, .data, .pinned], laidTests := true, laidLooks := .later }
def FnJSAppendUptoCardSaid : Prop := Claim7.holds Tryz.pinned (.plain (OpenSpec.upto fnJSAppendSpec)) fnJSAppendUptoCard

/-- THE SECOND FORM's CARD OF 'laws.FnJSReplace'. -/
def fnJSReplaceUptoCard : Claim7 := { stood := { row := fnJSReplaceUptoRow, standIns := [], harness := (true, "86861f665650765426c1abbbdea1523588b5e9a221e4e423eb87567ae80e110e"), looks := true }, kinds := [], alts := [], laidByText := true, laidKinds := [.data, .data, .data, .data, .sentinel, .sentinel, .listed, .data, .data, .pinned], laidTests := true, laidLooks := .later }
def FnJSReplaceUptoCardSaid : Prop := Claim7.holds Tryz.pinned (.plain (OpenSpec.upto fnJSReplaceSpec)) fnJSReplaceUptoCard
end Rows
end Go.Proofs.YtmelgankbegjaaaGreatDoor
