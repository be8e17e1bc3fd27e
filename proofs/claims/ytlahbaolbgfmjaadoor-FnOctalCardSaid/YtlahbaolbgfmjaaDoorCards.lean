/-
  DERIVED. GIVEN WITH THE SEED: THE CARDS: each row of YtlahbaolbgfmjaaDoorRows.lean that lists a variable, with what it lists TIED to the program's text (the seventh form; the later family's looks); each row that meets fmt, with fmt's text TOLD by the authors' own Lean function (tested against real Go, not proved from fmt's source: count such statements apart). THE CARD IS WHAT COUNTS. Prove the row's statement (the work); the ties are given (YtlahbaolbgfmjaaDoorTie.lean); close each card by the builder's one call (the guide's Derived/Test/ToyasCard.lean, 'card_holds'). Laid BY PROGRAM, IN A SANDBOX (cutbox-door.mjs). By AI agents, Wed Nov 11 2026. No macro, syntax, notation, axiom, sorry.
-/
import Derived.Test.YtlahbaolbgfmjaaDoorRows
import GoSem.ClaimSeven
namespace Go.Proofs.YtlahbaolbgfmjaaDoor
namespace Rows

/-- THE TIED CARD OF 'laws.FnSafe'. -/
def fnSafeCard : Claim7 := { stood := { row := fnSafeRow, standIns := [], harness := (true, "dba47993cabd61674c07223b0344a9c3d824179af4b731d2df8defc17649b1c6"), looks := true }, kinds := [], alts := [], laidByText := true, laidKinds := [.sentinel], laidTests := true, laidLooks := .later }
def FnSafeCardSaid : Prop := Claim7.holds Tryd.pinned (.plain (OpenSpec.ofChange fnSafeSpec)) fnSafeCard

/-- THE TIED CARD OF 'laws.FnOctal'. -/
def fnOctalCard : Claim7 := { stood := { row := fnOctalRow, standIns := [], harness := (true, "dba47993cabd61674c07223b0344a9c3d824179af4b731d2df8defc17649b1c6"), looks := true }, kinds := [], alts := [], laidByText := true, laidKinds := [.data, .data, .data, .sentinel, .sentinel], laidTests := true, laidLooks := .later }
def FnOctalCardSaid : Prop := Claim7.holds Tryd.pinned (.plain (OpenSpec.ofChange fnOctalSpec)) fnOctalCard

/-- THE SECOND FORM's CARD OF 'laws.FnSafe'. -/
def fnSafeUptoCard : Claim7 := { stood := { row := fnSafeUptoRow, standIns := [], harness := (true, "dba47993cabd61674c07223b0344a9c3d824179af4b731d2df8defc17649b1c6"), looks := true }, kinds := [], alts := [], laidByText := true, laidKinds := [.sentinel], laidTests := true, laidLooks := .later }
def FnSafeUptoCardSaid : Prop := Claim7.holds Tryd.pinned (.plain (OpenSpec.upto fnSafeSpec)) fnSafeUptoCard

/-- THE SECOND FORM's CARD OF 'laws.FnOctal'. -/
def fnOctalUptoCard : Claim7 := { stood := { row := fnOctalUptoRow, standIns := [], harness := (true, "dba47993cabd61674c07223b0344a9c3d824179af4b731d2df8defc17649b1c6"), looks := true }, kinds := [], alts := [], laidByText := true, laidKinds := [.data, .data, .data, .sentinel, .sentinel], laidTests := true, laidLooks := .later }
def FnOctalUptoCardSaid : Prop := Claim7.holds Tryd.pinned (.plain (OpenSpec.upto fnOctalSpec)) fnOctalUptoCard
end Rows
end Go.Proofs.YtlahbaolbgfmjaaDoor
