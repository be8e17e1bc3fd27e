/-
  DERIVED. GIVEN WITH THE SEED: THE PROGRAM's TIES (one call each: nine closed facts by the kernel) AND EACH ROW's TIE, after the 31st guide's Derived/Test/Toyas{Tie, Card}.lean. No idea stands in it: it is a product of the set-up. Laid BY PROGRAM, IN A SANDBOX (cutbox-door.mjs). By AI agents, Wed Nov 11 2026. No macro, syntax, notation, axiom, sorry.
-/
import Derived.Test.YthjbaeipdjoenaaDoorRows
import Derived.LaidByTextLater
import Derived.SevenTiedAt
import Derived.LaidSub
import Derived.LaidOnce
namespace Go.Proofs.YthjbaeipdjoenaaDoor
open Go
set_option maxRecDepth 100000
theorem seatTie1 : Tryd.prog.laidByTextLater [("math._sin", Rows.laid_math_sin), ("math._cos", Rows.laid_math_cos), ("math.mPi4", Rows.laid_math_mPi4), ("given.example/pub-quirewright/pub/pdfcpu/pkg/pdfcpu/matrix.IdentMatrix", Rows.laid_given_example_pub_quirewright_pub_pdfcpu_pkg_pdfcpu_matrix_IdentMatrix)] [.data, .data, .data, .data] true :=
  Program.laidByTextLater_by_one 32 8 21 (by kernel_rfl) (by kernel_rfl) (by kernel_rfl) (by kernel_rfl) (by kernel_rfl) (by kernel_rfl) (fun _ _ => by kernel_rfl)
theorem noOwnUnsafe : Tryd.pinned.checked.prog.headLifts.contains "ownunsafe" = false := by kernel_rfl
theorem tie : Tryd.prog.laidByTextLater [("given.example/pub-quirewright/pub/pdfcpu/pkg/pdfcpu/matrix.IdentMatrix", Rows.laid_given_example_pub_quirewright_pub_pdfcpu_pkg_pdfcpu_matrix_IdentMatrix)] [.data] true :=
  Program.laidByTextLater.sub seatTie1 ["given.example/pub-quirewright/pub/pdfcpu/pkg/pdfcpu/matrix.IdentMatrix"] (by kernel_rfl) (by kernel_rfl)
theorem fnPlaced_row_tie : Rows.fnPlacedRow.laidByTextAt .later Tryd.pinned [.data] true :=
  OpenClaim.laidByTextAt_later rfl rfl tie noOwnUnsafe
theorem tie2 : Tryd.prog.laidByTextLater [("math._sin", Rows.laid_math_sin), ("math._cos", Rows.laid_math_cos), ("math.mPi4", Rows.laid_math_mPi4), ("given.example/pub-quirewright/pub/pdfcpu/pkg/pdfcpu/matrix.IdentMatrix", Rows.laid_given_example_pub_quirewright_pub_pdfcpu_pkg_pdfcpu_matrix_IdentMatrix)] [.data, .data, .data, .data] true :=
  Program.laidByTextLater.sub seatTie1 ["math._sin", "math._cos", "math.mPi4", "given.example/pub-quirewright/pub/pdfcpu/pkg/pdfcpu/matrix.IdentMatrix"] (by kernel_rfl) (by kernel_rfl)
theorem fnQuarters_row_tie : Rows.fnQuartersRow.laidByTextAt .later Tryd.pinned [.data, .data, .data, .data] true :=
  OpenClaim.laidByTextAt_later rfl rfl tie2 noOwnUnsafe
theorem fnTurned_row_tie : Rows.fnTurnedRow.laidByTextAt .later Tryd.pinned [.data, .data, .data, .data] true :=
  OpenClaim.laidByTextAt_later rfl rfl tie2 noOwnUnsafe
theorem fnPlacedUpto_row_tie : Rows.fnPlacedUptoRow.laidByTextAt .later Tryd.pinned [.data] true :=
  OpenClaim.laidByTextAt_later rfl rfl tie noOwnUnsafe
theorem fnQuartersUpto_row_tie : Rows.fnQuartersUptoRow.laidByTextAt .later Tryd.pinned [.data, .data, .data, .data] true :=
  OpenClaim.laidByTextAt_later rfl rfl tie2 noOwnUnsafe
theorem fnTurnedUpto_row_tie : Rows.fnTurnedUptoRow.laidByTextAt .later Tryd.pinned [.data, .data, .data, .data] true :=
  OpenClaim.laidByTextAt_later rfl rfl tie2 noOwnUnsafe
end Go.Proofs.YthjbaeipdjoenaaDoor
