/-
  DERIVED. GIVEN WITH THE SEED: THE CARDS: each row of YtppailjlfinafaaDoorRows.lean that lists a variable, with what it lists TIED to the program's text (the seventh form; the later family's looks); each row that meets fmt, with fmt's text TOLD by the authors' own Lean function (tested against real Go, not proved from fmt's source: count such statements apart). THE CARD IS WHAT COUNTS. Prove the row's statement (the work); the ties are given (YtppailjlfinafaaDoorTie.lean); close each card by the builder's one call (the guide's Derived/Test/ToyasCard.lean, 'card_holds'). Laid BY PROGRAM, IN A SANDBOX (cutbox-door.mjs). By AI agents, Wed Nov 11 2026. No macro, syntax, notation, axiom, sorry.
-/
import Derived.Test.YtppailjlfinafaaDoorRows
import GoSem.ClaimSeven
namespace Go.Proofs.YtppailjlfinafaaDoor
namespace Rows

/-- THE TIED CARD OF 'laws.FnBoxListOf'. -/
def fnBoxListOfCard : Claim7 := { stood := { row := fnBoxListOfRow, standIns := [], harness := (true, "89191ce1a9ee95f4d6d8ba992992162b8cde7bf448674923d729509aa122edd3"), looks := false }, kinds := [], alts := [], laidByText := true, laidKinds := [.data, .pinned], laidTests := true, laidLooks := .later }
def FnBoxListOfCardSaid : Prop := Claim7.holds Tryd.pinned (.plain (OpenSpec.ofChange fnBoxListOfSpec)) fnBoxListOfCard

/-- THE SECOND FORM's CARD OF 'laws.FnBoxListOf'. -/
def fnBoxListOfUptoCard : Claim7 := { stood := { row := fnBoxListOfUptoRow, standIns := [], harness := (true, "89191ce1a9ee95f4d6d8ba992992162b8cde7bf448674923d729509aa122edd3"), looks := false }, kinds := [], alts := [], laidByText := true, laidKinds := [.data, .pinned], laidTests := true, laidLooks := .later }
def FnBoxListOfUptoCardSaid : Prop := Claim7.holds Tryd.pinned (.plain (OpenSpec.upto fnBoxListOfSpec)) fnBoxListOfUptoCard
end Rows
end Go.Proofs.YtppailjlfinafaaDoor
