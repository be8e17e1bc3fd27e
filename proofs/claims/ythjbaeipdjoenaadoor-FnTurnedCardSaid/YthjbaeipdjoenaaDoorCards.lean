/-
  DERIVED. GIVEN WITH THE SEED: THE CARDS: each row of YthjbaeipdjoenaaDoorRows.lean that lists a variable, with what it lists TIED to the program's text (the seventh form; the later family's looks); each row that meets fmt, with fmt's text TOLD by the authors' own Lean function (tested against real Go, not proved from fmt's source: count such statements apart). THE CARD IS WHAT COUNTS. Prove the row's statement (the work); the ties are given (YthjbaeipdjoenaaDoorTie.lean); close each card by the builder's one call (the guide's Derived/Test/ToyasCard.lean, 'card_holds'). Laid BY PROGRAM, IN A SANDBOX (cutbox-door.mjs). By AI agents, Wed Nov 11 2026. No macro, syntax, notation, axiom, sorry.
-/
import Derived.Test.YthjbaeipdjoenaaDoorRows
import GoSem.ClaimSeven
namespace Go.Proofs.YthjbaeipdjoenaaDoor
namespace Rows

/-- THE TIED CARD OF 'laws.FnPlaced'. -/
def fnPlacedCard : Claim7 := { stood := { row := fnPlacedRow, standIns := [], harness := (true, "9b283d2acde3cd68ab9cfb046d3b6f2e8c9a51cbc5867a4a9232d8c9be8a19c3"), looks := false }, kinds := [], alts := [], laidByText := true, laidKinds := [.data], laidTests := true, laidLooks := .later }
def FnPlacedCardSaid : Prop := Claim7.holds Tryd.pinned (.plain (OpenSpec.ofChange fnPlacedSpec)) fnPlacedCard

/-- THE TIED CARD OF 'laws.FnQuarters'. -/
def fnQuartersCard : Claim7 := { stood := { row := fnQuartersRow, standIns := [], harness := (true, "9b283d2acde3cd68ab9cfb046d3b6f2e8c9a51cbc5867a4a9232d8c9be8a19c3"), looks := false }, kinds := [], alts := [], laidByText := true, laidKinds := [.data, .data, .data, .data], laidTests := true, laidLooks := .later }
def FnQuartersCardSaid : Prop := Claim7.holds Tryd.pinned (.plain (OpenSpec.ofChange fnQuartersSpec)) fnQuartersCard

/-- THE TIED CARD OF 'laws.FnTurned'. -/
def fnTurnedCard : Claim7 := { stood := { row := fnTurnedRow, standIns := [], harness := (true, "9b283d2acde3cd68ab9cfb046d3b6f2e8c9a51cbc5867a4a9232d8c9be8a19c3"), looks := false }, kinds := [], alts := [], laidByText := true, laidKinds := [.data, .data, .data, .data], laidTests := true, laidLooks := .later }
def FnTurnedCardSaid : Prop := Claim7.holds Tryd.pinned (.plain (OpenSpec.ofChange fnTurnedSpec)) fnTurnedCard

/-- THE SECOND FORM's CARD OF 'laws.FnPlaced'. -/
def fnPlacedUptoCard : Claim7 := { stood := { row := fnPlacedUptoRow, standIns := [], harness := (true, "9b283d2acde3cd68ab9cfb046d3b6f2e8c9a51cbc5867a4a9232d8c9be8a19c3"), looks := false }, kinds := [], alts := [], laidByText := true, laidKinds := [.data], laidTests := true, laidLooks := .later }
def FnPlacedUptoCardSaid : Prop := Claim7.holds Tryd.pinned (.plain (OpenSpec.upto fnPlacedSpec)) fnPlacedUptoCard

/-- THE SECOND FORM's CARD OF 'laws.FnQuarters'. -/
def fnQuartersUptoCard : Claim7 := { stood := { row := fnQuartersUptoRow, standIns := [], harness := (true, "9b283d2acde3cd68ab9cfb046d3b6f2e8c9a51cbc5867a4a9232d8c9be8a19c3"), looks := false }, kinds := [], alts := [], laidByText := true, laidKinds := [.data, .data, .data, .data], laidTests := true, laidLooks := .later }
def FnQuartersUptoCardSaid : Prop := Claim7.holds Tryd.pinned (.plain (OpenSpec.upto fnQuartersSpec)) fnQuartersUptoCard

/-- THE SECOND FORM's CARD OF 'laws.FnTurned'. -/
def fnTurnedUptoCard : Claim7 := { stood := { row := fnTurnedUptoRow, standIns := [], harness := (true, "9b283d2acde3cd68ab9cfb046d3b6f2e8c9a51cbc5867a4a9232d8c9be8a19c3"), looks := false }, kinds := [], alts := [], laidByText := true, laidKinds := [.data, .data, .data, .data], laidTests := true, laidLooks := .later }
def FnTurnedUptoCardSaid : Prop := Claim7.holds Tryd.pinned (.plain (OpenSpec.upto fnTurnedSpec)) fnTurnedUptoCard
end Rows
end Go.Proofs.YthjbaeipdjoenaaDoor
