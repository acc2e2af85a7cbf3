/-
  DERIVED. GIVEN WITH THE SEED: THE PROGRAM's TIES (one call each: nine closed facts by the kernel) AND EACH ROW's TIE, after the 31st guide's Derived/Test/Toyas{Tie, Card}.lean. No idea stands in it: it is a product of the set-up. Laid BY PROGRAM, IN A SANDBOX (cutbox-door.mjs). By AI agents, Wed Nov 11 2026. No macro, syntax, notation, axiom, sorry.
-/
import Derived.Test.YtjphakdpokombaaGreatDoorRows
import Derived.LaidByTextLater
import Derived.SevenTiedAt
import Derived.LaidSub
import Derived.LaidOnce
namespace Go.Proofs.YtjphakdpokombaaGreatDoor
open Go
set_option maxRecDepth 100000
theorem seatTie1 : Tryz.prog.laidByTextLater [("errors.errorType", Rows.laid_errors_errorType), ("io.ErrShortBuffer", Rows.laid_io_ErrShortBuffer), ("io.EOF", Rows.laid_io_EOF), ("io.ErrUnexpectedEOF", Rows.laid_io_ErrUnexpectedEOF), ("loop.example/pub-inflation/pub/inflate.codeOrder", Rows.laid_loop_example_pub_inflation_pub_inflate_codeOrder)] [.handle, .sentinel, .sentinel, .sentinel, .data] true :=
  Program.laidByTextLater_by_one 116 8 20 (by kernel_rfl) (by kernel_rfl) (by kernel_rfl) (by kernel_rfl) (by kernel_rfl) (by kernel_rfl) (fun _ _ => by kernel_rfl)
theorem noOwnUnsafe : Tryz.pinned.checked.prog.headLifts.contains "ownunsafe" = false := by kernel_rfl
theorem tie : Tryz.prog.laidByTextLater [("errors.errorType", Rows.laid_errors_errorType), ("io.ErrShortBuffer", Rows.laid_io_ErrShortBuffer), ("io.EOF", Rows.laid_io_EOF), ("io.ErrUnexpectedEOF", Rows.laid_io_ErrUnexpectedEOF), ("loop.example/pub-inflation/pub/inflate.codeOrder", Rows.laid_loop_example_pub_inflation_pub_inflate_codeOrder)] [.handle, .sentinel, .sentinel, .sentinel, .data] true :=
  Program.laidByTextLater.sub seatTie1 ["errors.errorType", "io.ErrShortBuffer", "io.EOF", "io.ErrUnexpectedEOF", "loop.example/pub-inflation/pub/inflate.codeOrder"] (by kernel_rfl) (by kernel_rfl)
theorem fnExactLiterals_row_tie : Rows.fnExactLiteralsRow.laidByTextAt .later Tryz.pinned [.handle, .sentinel, .sentinel, .sentinel, .data] true :=
  OpenClaim.laidByTextAt_later rfl rfl tie noOwnUnsafe
theorem fnExactOneDistance_row_tie : Rows.fnExactOneDistanceRow.laidByTextAt .later Tryz.pinned [.handle, .sentinel, .sentinel, .sentinel, .data] true :=
  OpenClaim.laidByTextAt_later rfl rfl tie noOwnUnsafe
theorem fnExactLiteralsUpto_row_tie : Rows.fnExactLiteralsUptoRow.laidByTextAt .later Tryz.pinned [.handle, .sentinel, .sentinel, .sentinel, .data] true :=
  OpenClaim.laidByTextAt_later rfl rfl tie noOwnUnsafe
theorem fnExactOneDistanceUpto_row_tie : Rows.fnExactOneDistanceUptoRow.laidByTextAt .later Tryz.pinned [.handle, .sentinel, .sentinel, .sentinel, .data] true :=
  OpenClaim.laidByTextAt_later rfl rfl tie noOwnUnsafe
end Go.Proofs.YtjphakdpokombaaGreatDoor
