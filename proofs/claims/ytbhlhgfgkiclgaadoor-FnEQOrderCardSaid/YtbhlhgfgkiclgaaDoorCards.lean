/-
  DERIVED. GIVEN WITH THE SEED: THE CARDS: each row of YtbhlhgfgkiclgaaDoorRows.lean that lists a variable, with what it lists TIED to the program's text (the seventh form; the later family's looks); each row that meets fmt, with fmt's text TOLD by the authors' own Lean function (tested against real Go, not proved from fmt's source: count such statements apart). THE CARD IS WHAT COUNTS. Prove the row's statement (the work); the ties are given (YtbhlhgfgkiclgaaDoorTie.lean); close each card by the builder's one call (the guide's Derived/Test/ToyasCard.lean, 'card_holds'). Laid BY PROGRAM, IN A SANDBOX (cutbox-door.mjs). By AI agents, Wed Nov 11 2026. No macro, syntax, notation, axiom, sorry.
-/
import Derived.Test.YtbhlhgfgkiclgaaDoorRows
import GoSem.ClaimSeven
namespace Go.Proofs.YtbhlhgfgkiclgaaDoor
namespace Rows

/-- THE TIED CARD OF 'laws.FnISNext'. -/
def fnISNextCard : Claim7 := { stood := { row := fnISNextRow, standIns := [], harness := (true, "d45b7bffa9049b27ca645c14f9de9612590f592480443579dc76fc4c940fb843"), looks := false }, kinds := [], alts := [], laidByText := true, laidKinds := [.data], laidTests := true, laidLooks := .later }
def FnISNextCardSaid : Prop := Claim7.holds Tryd.pinned (.plain (OpenSpec.ofChange fnISNextSpec)) fnISNextCard

/-- THE TIED CARD OF 'laws.FnEQOrder'. -/
def fnEQOrderCard : Claim7 := { stood := { row := fnEQOrderRow, standIns := [], harness := (true, "d45b7bffa9049b27ca645c14f9de9612590f592480443579dc76fc4c940fb843"), looks := false }, kinds := [], alts := [], laidByText := true, laidKinds := [.data], laidTests := true, laidLooks := .later }
def FnEQOrderCardSaid : Prop := Claim7.holds Tryd.pinned (.plain (OpenSpec.ofChange fnEQOrderSpec)) fnEQOrderCard

/-- THE TIED CARD OF 'laws.FnCSAsks'. -/
def fnCSAsksCard : Claim7 := { stood := { row := fnCSAsksRow, standIns := [], harness := (true, "d45b7bffa9049b27ca645c14f9de9612590f592480443579dc76fc4c940fb843"), looks := false }, kinds := [], alts := [], laidByText := true, laidKinds := [.data], laidTests := true, laidLooks := .later }
def FnCSAsksCardSaid : Prop := Claim7.holds Tryd.pinned (.plain (OpenSpec.ofChange fnCSAsksSpec)) fnCSAsksCard

/-- THE SECOND FORM's CARD OF 'laws.FnISNext'. -/
def fnISNextUptoCard : Claim7 := { stood := { row := fnISNextUptoRow, standIns := [], harness := (true, "d45b7bffa9049b27ca645c14f9de9612590f592480443579dc76fc4c940fb843"), looks := false }, kinds := [], alts := [], laidByText := true, laidKinds := [.data], laidTests := true, laidLooks := .later }
def FnISNextUptoCardSaid : Prop := Claim7.holds Tryd.pinned (.plain (OpenSpec.upto fnISNextSpec)) fnISNextUptoCard

/-- THE SECOND FORM's CARD OF 'laws.FnEQOrder'. -/
def fnEQOrderUptoCard : Claim7 := { stood := { row := fnEQOrderUptoRow, standIns := [], harness := (true, "d45b7bffa9049b27ca645c14f9de9612590f592480443579dc76fc4c940fb843"), looks := false }, kinds := [], alts := [], laidByText := true, laidKinds := [.data], laidTests := true, laidLooks := .later }
def FnEQOrderUptoCardSaid : Prop := Claim7.holds Tryd.pinned (.plain (OpenSpec.upto fnEQOrderSpec)) fnEQOrderUptoCard

/-- THE SECOND FORM's CARD OF 'laws.FnCSAsks'. -/
def fnCSAsksUptoCard : Claim7 := { stood := { row := fnCSAsksUptoRow, standIns := [], harness := (true, "d45b7bffa9049b27ca645c14f9de9612590f592480443579dc76fc4c940fb843"), looks := false }, kinds := [], alts := [], laidByText := true, laidKinds := [.data], laidTests := true, laidLooks := .later }
def FnCSAsksUptoCardSaid : Prop := Claim7.holds Tryd.pinned (.plain (OpenSpec.upto fnCSAsksSpec)) fnCSAsksUptoCard
end Rows
end Go.Proofs.YtbhlhgfgkiclgaaDoor
