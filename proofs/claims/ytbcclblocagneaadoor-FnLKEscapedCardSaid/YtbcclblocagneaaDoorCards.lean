/-
  DERIVED. GIVEN WITH THE SEED: THE CARDS: each row of YtbcclblocagneaaDoorRows.lean that lists a variable, with what it lists TIED to the program's text (the seventh form; the later family's looks); each row that meets fmt, with fmt's text TOLD by the authors' own Lean function (tested against real Go, not proved from fmt's source: count such statements apart). THE CARD IS WHAT COUNTS. Prove the row's statement (the work); the ties are given (YtbcclblocagneaaDoorTie.lean); close each card by the builder's one call (the guide's Derived/Test/ToyasCard.lean, 'card_holds'). Laid BY PROGRAM, IN A SANDBOX (cutbox-door.mjs). By AI agents, Wed Nov 11 2026. No macro, syntax, notation, axiom, sorry.
-/
import Derived.Test.YtbcclblocagneaaDoorRows
import GoSem.ClaimSeven
namespace Go.Proofs.YtbcclblocagneaaDoor
namespace Rows

/-- THE TIED CARD OF 'laws.FnVLBack'. -/
def fnVLBackCard : Claim7 := { stood := { row := fnVLBackRow, standIns := [], harness := (true, "56348d7a3857ec3e597310993d2e720d3f6275574afb8cb6525c6a1894bfb52a"), looks := true }, kinds := [], alts := [], laidByText := true, laidKinds := [.data], laidTests := true, laidLooks := .later }
def FnVLBackCardSaid : Prop := Claim7.holds Tryd.pinned (.plain (OpenSpec.ofChange fnVLBackSpec)) fnVLBackCard

/-- THE TIED CARD OF 'laws.FnVLOrder'. -/
def fnVLOrderCard : Claim7 := { stood := { row := fnVLOrderRow, standIns := [], harness := (true, "56348d7a3857ec3e597310993d2e720d3f6275574afb8cb6525c6a1894bfb52a"), looks := true }, kinds := [], alts := [], laidByText := true, laidKinds := [.data, .data], laidTests := true, laidLooks := .later }
def FnVLOrderCardSaid : Prop := Claim7.holds Tryd.pinned (.plain (OpenSpec.ofChange fnVLOrderSpec)) fnVLOrderCard

/-- THE TIED CARD OF 'laws.FnLKEscaped'. -/
def fnLKEscapedCard : Claim7 := { stood := { row := fnLKEscapedRow, standIns := [], harness := (true, "56348d7a3857ec3e597310993d2e720d3f6275574afb8cb6525c6a1894bfb52a"), looks := true }, kinds := [], alts := [], laidByText := true, laidKinds := [.data, .pinned], laidTests := true, laidLooks := .later }
def FnLKEscapedCardSaid : Prop := Claim7.holds Tryd.pinned (.plain (OpenSpec.ofChange fnLKEscapedSpec)) fnLKEscapedCard

/-- THE SECOND FORM's CARD OF 'laws.FnVLBack'. -/
def fnVLBackUptoCard : Claim7 := { stood := { row := fnVLBackUptoRow, standIns := [], harness := (true, "56348d7a3857ec3e597310993d2e720d3f6275574afb8cb6525c6a1894bfb52a"), looks := true }, kinds := [], alts := [], laidByText := true, laidKinds := [.data], laidTests := true, laidLooks := .later }
def FnVLBackUptoCardSaid : Prop := Claim7.holds Tryd.pinned (.plain (OpenSpec.upto fnVLBackSpec)) fnVLBackUptoCard

/-- THE SECOND FORM's CARD OF 'laws.FnVLOrder'. -/
def fnVLOrderUptoCard : Claim7 := { stood := { row := fnVLOrderUptoRow, standIns := [], harness := (true, "56348d7a3857ec3e597310993d2e720d3f6275574afb8cb6525c6a1894bfb52a"), looks := true }, kinds := [], alts := [], laidByText := true, laidKinds := [.data, .data], laidTests := true, laidLooks := .later }
def FnVLOrderUptoCardSaid : Prop := Claim7.holds Tryd.pinned (.plain (OpenSpec.upto fnVLOrderSpec)) fnVLOrderUptoCard

/-- THE SECOND FORM's CARD OF 'laws.FnLKEscaped'. -/
def fnLKEscapedUptoCard : Claim7 := { stood := { row := fnLKEscapedUptoRow, standIns := [], harness := (true, "56348d7a3857ec3e597310993d2e720d3f6275574afb8cb6525c6a1894bfb52a"), looks := true }, kinds := [], alts := [], laidByText := true, laidKinds := [.data, .pinned], laidTests := true, laidLooks := .later }
def FnLKEscapedUptoCardSaid : Prop := Claim7.holds Tryd.pinned (.plain (OpenSpec.upto fnLKEscapedSpec)) fnLKEscapedUptoCard
end Rows
end Go.Proofs.YtbcclblocagneaaDoor
