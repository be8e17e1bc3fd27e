/-
  DERIVED. GIVEN WITH THE SEED: THE CARDS: each row of YtakckfghiaoonaaDoorRows.lean that lists a variable, with what it lists TIED to the program's text (the seventh form; the later family's looks); each row that meets fmt, with fmt's text TOLD by the authors' own Lean function (tested against real Go, not proved from fmt's source: count such statements apart). THE CARD IS WHAT COUNTS. Prove the row's statement (the work); the ties are given (YtakckfghiaoonaaDoorTie.lean); close each card by the builder's one call (the guide's Derived/Test/ToyasCard.lean, 'card_holds'). Laid BY PROGRAM, IN A SANDBOX (cutbox-door.mjs). By AI agents, Wed Nov 11 2026. No macro, syntax, notation, axiom, sorry.
-/
import Derived.Test.YtakckfghiaoonaaDoorRows
import GoSem.ClaimSeven
namespace Go.Proofs.YtakckfghiaoonaaDoor
namespace Rows

/-- THE TIED CARD OF 'laws.FnColorParts'. -/
def fnColorPartsCard : Claim7 := { stood := { row := fnColorPartsRow, standIns := [], harness := (true, "f963ad00f69cae1b4bcaed769d77a82b41ea2f786de56a85c697bf2b921aab59"), looks := true }, kinds := [], alts := [], laidByText := true, laidKinds := [.data, .data, .widerDeep, .widerDeep, .data, .data, .data, .data, .data, .sentinel, .sentinel, .sentinel, .data, .data, .data, .data, .data, .data, .data, .data, .sentinel, .pinned, .pinned], laidTests := true, laidLooks := .later }
def FnColorPartsCardSaid : Prop := Claim7.holds Tryd.pinned (.plain (OpenSpec.ofChange fnColorPartsSpec)) fnColorPartsCard

/-- THE TIED CARD OF 'laws.FnHexColor'. -/
def fnHexColorCard : Claim7 := { stood := { row := fnHexColorRow, standIns := [], harness := (true, "f963ad00f69cae1b4bcaed769d77a82b41ea2f786de56a85c697bf2b921aab59"), looks := true }, kinds := [], alts := [], laidByText := true, laidKinds := [.data, .data, .widerDeep, .widerDeep, .data, .data, .data, .data, .data, .sentinel, .sentinel, .sentinel, .data, .data, .data, .data, .data, .data, .data, .data, .sentinel, .pinned, .pinned], laidTests := true, laidLooks := .later }
def FnHexColorCardSaid : Prop := Claim7.holds Tryd.pinned (.plain (OpenSpec.ofChange fnHexColorSpec)) fnHexColorCard

/-- THE SECOND FORM's CARD OF 'laws.FnColorParts'. -/
def fnColorPartsUptoCard : Claim7 := { stood := { row := fnColorPartsUptoRow, standIns := [], harness := (true, "f963ad00f69cae1b4bcaed769d77a82b41ea2f786de56a85c697bf2b921aab59"), looks := true }, kinds := [], alts := [], laidByText := true, laidKinds := [.data, .data, .widerDeep, .widerDeep, .data, .data, .data, .data, .data, .sentinel, .sentinel, .sentinel, .data, .data, .data, .data, .data, .data, .data, .data, .sentinel, .pinned, .pinned], laidTests := true, laidLooks := .later }
def FnColorPartsUptoCardSaid : Prop := Claim7.holds Tryd.pinned (.plain (OpenSpec.upto fnColorPartsSpec)) fnColorPartsUptoCard

/-- THE SECOND FORM's CARD OF 'laws.FnHexColor'. -/
def fnHexColorUptoCard : Claim7 := { stood := { row := fnHexColorUptoRow, standIns := [], harness := (true, "f963ad00f69cae1b4bcaed769d77a82b41ea2f786de56a85c697bf2b921aab59"), looks := true }, kinds := [], alts := [], laidByText := true, laidKinds := [.data, .data, .widerDeep, .widerDeep, .data, .data, .data, .data, .data, .sentinel, .sentinel, .sentinel, .data, .data, .data, .data, .data, .data, .data, .data, .sentinel, .pinned, .pinned], laidTests := true, laidLooks := .later }
def FnHexColorUptoCardSaid : Prop := Claim7.holds Tryd.pinned (.plain (OpenSpec.upto fnHexColorSpec)) fnHexColorUptoCard
end Rows
end Go.Proofs.YtakckfghiaoonaaDoor
