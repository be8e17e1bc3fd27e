/-
  DERIVED. GIVEN WITH THE SEED: THE CARDS: each row of YthfihamhkhnckaaDoorRows.lean that lists a variable, with what it lists TIED to the program's text (the seventh form; the later family's looks); each row that meets fmt, with fmt's text TOLD by the authors' own Lean function (tested against real Go, not proved from fmt's source: count such statements apart). THE CARD IS WHAT COUNTS. Prove the row's statement (the work); the ties are given (YthfihamhkhnckaaDoorTie.lean); close each card by the builder's one call (the guide's Derived/Test/ToyasCard.lean, 'card_holds'). Laid BY PROGRAM, IN A SANDBOX (cutbox-door.mjs). By AI agents, Wed Nov 11 2026. No macro, syntax, notation, axiom, sorry.
-/
import Derived.Test.YthfihamhkhnckaaDoorRows
import GoSem.ClaimSeven
namespace Go.Proofs.YthfihamhkhnckaaDoor
namespace Rows

/-- THE TIED CARD OF 'laws.FnCollected'. -/
def fnCollectedCard : Claim7 := { stood := { row := fnCollectedRow, standIns := [], harness := (true, "d3e1d1a6e0c5b5bff3d30e5a07164b383b04ab8b714f165e849ec4f15d077f98"), looks := true }, kinds := [], alts := [], laidByText := true, laidKinds := [.data, .data, .data, .sentinel, .sentinel], laidTests := true, laidLooks := .later }
def FnCollectedCardSaid : Prop := Claim7.holds Tryd.pinned (.plain (OpenSpec.ofChange fnCollectedSpec)) fnCollectedCard

/-- THE TIED CARD OF 'laws.FnSelected'. -/
def fnSelectedCard : Claim7 := { stood := { row := fnSelectedRow, standIns := [], harness := (true, "d3e1d1a6e0c5b5bff3d30e5a07164b383b04ab8b714f165e849ec4f15d077f98"), looks := true }, kinds := [], alts := [], laidByText := true, laidKinds := [.data, .data, .data, .sentinel, .sentinel], laidTests := true, laidLooks := .later }
def FnSelectedCardSaid : Prop := Claim7.holds Tryd.pinned (.plain (OpenSpec.ofChange fnSelectedSpec)) fnSelectedCard

/-- THE TIED CARD OF 'laws.FnRemaining'. -/
def fnRemainingCard : Claim7 := { stood := { row := fnRemainingRow, standIns := [], harness := (true, "d3e1d1a6e0c5b5bff3d30e5a07164b383b04ab8b714f165e849ec4f15d077f98"), looks := true }, kinds := [], alts := [], laidByText := true, laidKinds := [.data, .data, .data, .sentinel, .sentinel], laidTests := true, laidLooks := .later }
def FnRemainingCardSaid : Prop := Claim7.holds Tryd.pinned (.plain (OpenSpec.ofChange fnRemainingSpec)) fnRemainingCard

/-- THE SECOND FORM's CARD OF 'laws.FnCollected'. -/
def fnCollectedUptoCard : Claim7 := { stood := { row := fnCollectedUptoRow, standIns := [], harness := (true, "d3e1d1a6e0c5b5bff3d30e5a07164b383b04ab8b714f165e849ec4f15d077f98"), looks := true }, kinds := [], alts := [], laidByText := true, laidKinds := [.data, .data, .data, .sentinel, .sentinel], laidTests := true, laidLooks := .later }
def FnCollectedUptoCardSaid : Prop := Claim7.holds Tryd.pinned (.plain (OpenSpec.upto fnCollectedSpec)) fnCollectedUptoCard

/-- THE SECOND FORM's CARD OF 'laws.FnSelected'. -/
def fnSelectedUptoCard : Claim7 := { stood := { row := fnSelectedUptoRow, standIns := [], harness := (true, "d3e1d1a6e0c5b5bff3d30e5a07164b383b04ab8b714f165e849ec4f15d077f98"), looks := true }, kinds := [], alts := [], laidByText := true, laidKinds := [.data, .data, .data, .sentinel, .sentinel], laidTests := true, laidLooks := .later }
def FnSelectedUptoCardSaid : Prop := Claim7.holds Tryd.pinned (.plain (OpenSpec.upto fnSelectedSpec)) fnSelectedUptoCard

/-- THE SECOND FORM's CARD OF 'laws.FnRemaining'. -/
def fnRemainingUptoCard : Claim7 := { stood := { row := fnRemainingUptoRow, standIns := [], harness := (true, "d3e1d1a6e0c5b5bff3d30e5a07164b383b04ab8b714f165e849ec4f15d077f98"), looks := true }, kinds := [], alts := [], laidByText := true, laidKinds := [.data, .data, .data, .sentinel, .sentinel], laidTests := true, laidLooks := .later }
def FnRemainingUptoCardSaid : Prop := Claim7.holds Tryd.pinned (.plain (OpenSpec.upto fnRemainingSpec)) fnRemainingUptoCard
end Rows
end Go.Proofs.YthfihamhkhnckaaDoor
