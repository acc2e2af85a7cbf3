/-
  DERIVED. GIVEN WITH THE SEED: THE PROGRAM's TIES (one call each: nine closed facts by the kernel) AND EACH ROW's TIE, after the 31st guide's Derived/Test/Toyas{Tie, Card}.lean. No idea stands in it: it is a product of the set-up. Laid BY PROGRAM, IN A SANDBOX (cutbox-door.mjs). By AI agents, Wed Nov 11 2026. No macro, syntax, notation, axiom, sorry.
-/
import Derived.Test.YtaocijfaakgliaaDoorRows
import Derived.LaidByTextLater
import Derived.SevenTiedAt
import Derived.LaidSub
import Derived.LaidOnce
namespace Go.Proofs.YtaocijfaakgliaaDoor
open Go
set_option maxRecDepth 100000
theorem seatTie1 : Tryd.prog.laidByTextLater [("errors.errorType", Rows.laid_errors_errorType), ("io.ErrShortBuffer", Rows.laid_io_ErrShortBuffer), ("io.EOF", Rows.laid_io_EOF), ("io.ErrUnexpectedEOF", Rows.laid_io_ErrUnexpectedEOF), ("loop.example/pub-inflation/pub/inflate.codeOrder", Rows.laid_loop_example_pub_inflation_pub_inflate_codeOrder)] [.handle, .sentinel, .sentinel, .sentinel, .data] true :=
  Program.laidByTextLater_by_one 116 8 20 (by kernel_rfl) (by kernel_rfl) (by kernel_rfl) (by kernel_rfl) (by kernel_rfl) (by kernel_rfl) (fun _ _ => by kernel_rfl)
theorem noOwnUnsafe : Tryd.pinned.checked.prog.headLifts.contains "ownunsafe" = false := by kernel_rfl
theorem tie : Tryd.prog.laidByTextLater [("errors.errorType", Rows.laid_errors_errorType), ("io.ErrShortBuffer", Rows.laid_io_ErrShortBuffer), ("io.EOF", Rows.laid_io_EOF), ("io.ErrUnexpectedEOF", Rows.laid_io_ErrUnexpectedEOF), ("loop.example/pub-inflation/pub/inflate.codeOrder", Rows.laid_loop_example_pub_inflation_pub_inflate_codeOrder)] [.handle, .sentinel, .sentinel, .sentinel, .data] true :=
  Program.laidByTextLater.sub seatTie1 ["errors.errorType", "io.ErrShortBuffer", "io.EOF", "io.ErrUnexpectedEOF", "loop.example/pub-inflation/pub/inflate.codeOrder"] (by kernel_rfl) (by kernel_rfl)
theorem fnDistance_row_tie : Rows.fnDistanceRow.laidByTextAt .later Tryd.pinned [.handle, .sentinel, .sentinel, .sentinel, .data] true :=
  OpenClaim.laidByTextAt_later rfl rfl tie noOwnUnsafe
theorem fnLiteral_row_tie : Rows.fnLiteralRow.laidByTextAt .later Tryd.pinned [.handle, .sentinel, .sentinel, .sentinel, .data] true :=
  OpenClaim.laidByTextAt_later rfl rfl tie noOwnUnsafe
theorem fnLong258_row_tie : Rows.fnLong258Row.laidByTextAt .later Tryd.pinned [.handle, .sentinel, .sentinel, .sentinel, .data] true :=
  OpenClaim.laidByTextAt_later rfl rfl tie noOwnUnsafe
theorem fnOverlap_row_tie : Rows.fnOverlapRow.laidByTextAt .later Tryd.pinned [.handle, .sentinel, .sentinel, .sentinel, .data] true :=
  OpenClaim.laidByTextAt_later rfl rfl tie noOwnUnsafe
theorem fnRepeat_row_tie : Rows.fnRepeatRow.laidByTextAt .later Tryd.pinned [.handle, .sentinel, .sentinel, .sentinel, .data] true :=
  OpenClaim.laidByTextAt_later rfl rfl tie noOwnUnsafe
theorem fnStoredAny_row_tie : Rows.fnStoredAnyRow.laidByTextAt .later Tryd.pinned [.handle, .sentinel, .sentinel, .sentinel, .data] true :=
  OpenClaim.laidByTextAt_later rfl rfl tie noOwnUnsafe
theorem fnStoredSize_row_tie : Rows.fnStoredSizeRow.laidByTextAt .later Tryd.pinned [.handle, .sentinel, .sentinel, .sentinel, .data] true :=
  OpenClaim.laidByTextAt_later rfl rfl tie noOwnUnsafe
theorem fnDistanceUpto_row_tie : Rows.fnDistanceUptoRow.laidByTextAt .later Tryd.pinned [.handle, .sentinel, .sentinel, .sentinel, .data] true :=
  OpenClaim.laidByTextAt_later rfl rfl tie noOwnUnsafe
theorem fnLiteralUpto_row_tie : Rows.fnLiteralUptoRow.laidByTextAt .later Tryd.pinned [.handle, .sentinel, .sentinel, .sentinel, .data] true :=
  OpenClaim.laidByTextAt_later rfl rfl tie noOwnUnsafe
theorem fnLong258Upto_row_tie : Rows.fnLong258UptoRow.laidByTextAt .later Tryd.pinned [.handle, .sentinel, .sentinel, .sentinel, .data] true :=
  OpenClaim.laidByTextAt_later rfl rfl tie noOwnUnsafe
theorem fnOverlapUpto_row_tie : Rows.fnOverlapUptoRow.laidByTextAt .later Tryd.pinned [.handle, .sentinel, .sentinel, .sentinel, .data] true :=
  OpenClaim.laidByTextAt_later rfl rfl tie noOwnUnsafe
theorem fnRepeatUpto_row_tie : Rows.fnRepeatUptoRow.laidByTextAt .later Tryd.pinned [.handle, .sentinel, .sentinel, .sentinel, .data] true :=
  OpenClaim.laidByTextAt_later rfl rfl tie noOwnUnsafe
theorem fnStoredAnyUpto_row_tie : Rows.fnStoredAnyUptoRow.laidByTextAt .later Tryd.pinned [.handle, .sentinel, .sentinel, .sentinel, .data] true :=
  OpenClaim.laidByTextAt_later rfl rfl tie noOwnUnsafe
theorem fnStoredSizeUpto_row_tie : Rows.fnStoredSizeUptoRow.laidByTextAt .later Tryd.pinned [.handle, .sentinel, .sentinel, .sentinel, .data] true :=
  OpenClaim.laidByTextAt_later rfl rfl tie noOwnUnsafe
end Go.Proofs.YtaocijfaakgliaaDoor
