/-
  DERIVED. GIVEN WITH THE SEED: THE PROGRAM's TIES (one call each: nine closed facts by the kernel) AND EACH ROW's TIE, after the 31st guide's Derived/Test/Toyas{Tie, Card}.lean. No idea stands in it: it is a product of the set-up. Laid BY PROGRAM, IN A SANDBOX (cutbox-door.mjs). By AI agents, Wed Nov 11 2026. No macro, syntax, notation, axiom, sorry.
-/
import Derived.Test.YthhfbogakdechaaGreatDoorRows
import Derived.LaidByTextLater
import Derived.SevenTiedAt
import Derived.LaidSub
import Derived.LaidOnce
namespace Go.Proofs.YthhfbogakdechaaGreatDoor
open Go
set_option maxRecDepth 100000
theorem seatTie1 : Tryz.prog.laidByTextLater [("errors.errorType", Rows.laid_errors_errorType), ("io.ErrShortBuffer", Rows.laid_io_ErrShortBuffer), ("io.EOF", Rows.laid_io_EOF), ("io.ErrUnexpectedEOF", Rows.laid_io_ErrUnexpectedEOF), ("loop.example/pub-inflation/pub/inflate.codeOrder", Rows.laid_loop_example_pub_inflation_pub_inflate_codeOrder)] [.handle, .sentinel, .sentinel, .sentinel, .data] true :=
  Program.laidByTextLater_by_one 116 8 20 (by kernel_rfl) (by kernel_rfl) (by kernel_rfl) (by kernel_rfl) (by kernel_rfl) (by kernel_rfl) (fun _ _ => by kernel_rfl)
theorem noOwnUnsafe : Tryz.pinned.checked.prog.headLifts.contains "ownunsafe" = false := by kernel_rfl
theorem tie : Tryz.prog.laidByTextLater [("errors.errorType", Rows.laid_errors_errorType), ("io.ErrShortBuffer", Rows.laid_io_ErrShortBuffer), ("io.EOF", Rows.laid_io_EOF), ("io.ErrUnexpectedEOF", Rows.laid_io_ErrUnexpectedEOF), ("loop.example/pub-inflation/pub/inflate.codeOrder", Rows.laid_loop_example_pub_inflation_pub_inflate_codeOrder)] [.handle, .sentinel, .sentinel, .sentinel, .data] true :=
  Program.laidByTextLater.sub seatTie1 ["errors.errorType", "io.ErrShortBuffer", "io.EOF", "io.ErrUnexpectedEOF", "loop.example/pub-inflation/pub/inflate.codeOrder"] (by kernel_rfl) (by kernel_rfl)
theorem fnAgainStored_row_tie : Rows.fnAgainStoredRow.laidByTextAt .later Tryz.pinned [.handle, .sentinel, .sentinel, .sentinel, .data] true :=
  OpenClaim.laidByTextAt_later rfl rfl tie noOwnUnsafe
theorem fnClosed_row_tie : Rows.fnClosedRow.laidByTextAt .later Tryz.pinned [.handle, .sentinel, .sentinel, .sentinel, .data] true :=
  OpenClaim.laidByTextAt_later rfl rfl tie noOwnUnsafe
theorem fnCutEnd_row_tie : Rows.fnCutEndRow.laidByTextAt .later Tryz.pinned [.handle, .sentinel, .sentinel, .sentinel, .data] true :=
  OpenClaim.laidByTextAt_later rfl rfl tie noOwnUnsafe
theorem fnCuts_row_tie : Rows.fnCutsRow.laidByTextAt .later Tryz.pinned [.handle, .sentinel, .sentinel, .sentinel, .data] true :=
  OpenClaim.laidByTextAt_later rfl rfl tie noOwnUnsafe
theorem fnLimit_row_tie : Rows.fnLimitRow.laidByTextAt .later Tryz.pinned [.handle, .sentinel, .sentinel, .sentinel, .data] true :=
  OpenClaim.laidByTextAt_later rfl rfl tie noOwnUnsafe
theorem fnReads_row_tie : Rows.fnReadsRow.laidByTextAt .later Tryz.pinned [.handle, .sentinel, .sentinel, .sentinel, .data] true :=
  OpenClaim.laidByTextAt_later rfl rfl tie noOwnUnsafe
theorem fnReadsGive_row_tie : Rows.fnReadsGiveRow.laidByTextAt .later Tryz.pinned [.handle, .sentinel, .sentinel, .sentinel, .data] true :=
  OpenClaim.laidByTextAt_later rfl rfl tie noOwnUnsafe
theorem fnTail_row_tie : Rows.fnTailRow.laidByTextAt .later Tryz.pinned [.handle, .sentinel, .sentinel, .sentinel, .data] true :=
  OpenClaim.laidByTextAt_later rfl rfl tie noOwnUnsafe
theorem fnTrailing_row_tie : Rows.fnTrailingRow.laidByTextAt .later Tryz.pinned [.handle, .sentinel, .sentinel, .sentinel, .data] true :=
  OpenClaim.laidByTextAt_later rfl rfl tie noOwnUnsafe
theorem fnAgainStoredUpto_row_tie : Rows.fnAgainStoredUptoRow.laidByTextAt .later Tryz.pinned [.handle, .sentinel, .sentinel, .sentinel, .data] true :=
  OpenClaim.laidByTextAt_later rfl rfl tie noOwnUnsafe
theorem fnClosedUpto_row_tie : Rows.fnClosedUptoRow.laidByTextAt .later Tryz.pinned [.handle, .sentinel, .sentinel, .sentinel, .data] true :=
  OpenClaim.laidByTextAt_later rfl rfl tie noOwnUnsafe
theorem fnCutEndUpto_row_tie : Rows.fnCutEndUptoRow.laidByTextAt .later Tryz.pinned [.handle, .sentinel, .sentinel, .sentinel, .data] true :=
  OpenClaim.laidByTextAt_later rfl rfl tie noOwnUnsafe
theorem fnCutsUpto_row_tie : Rows.fnCutsUptoRow.laidByTextAt .later Tryz.pinned [.handle, .sentinel, .sentinel, .sentinel, .data] true :=
  OpenClaim.laidByTextAt_later rfl rfl tie noOwnUnsafe
theorem fnLimitUpto_row_tie : Rows.fnLimitUptoRow.laidByTextAt .later Tryz.pinned [.handle, .sentinel, .sentinel, .sentinel, .data] true :=
  OpenClaim.laidByTextAt_later rfl rfl tie noOwnUnsafe
theorem fnReadsUpto_row_tie : Rows.fnReadsUptoRow.laidByTextAt .later Tryz.pinned [.handle, .sentinel, .sentinel, .sentinel, .data] true :=
  OpenClaim.laidByTextAt_later rfl rfl tie noOwnUnsafe
theorem fnReadsGiveUpto_row_tie : Rows.fnReadsGiveUptoRow.laidByTextAt .later Tryz.pinned [.handle, .sentinel, .sentinel, .sentinel, .data] true :=
  OpenClaim.laidByTextAt_later rfl rfl tie noOwnUnsafe
theorem fnTailUpto_row_tie : Rows.fnTailUptoRow.laidByTextAt .later Tryz.pinned [.handle, .sentinel, .sentinel, .sentinel, .data] true :=
  OpenClaim.laidByTextAt_later rfl rfl tie noOwnUnsafe
theorem fnTrailingUpto_row_tie : Rows.fnTrailingUptoRow.laidByTextAt .later Tryz.pinned [.handle, .sentinel, .sentinel, .sentinel, .data] true :=
  OpenClaim.laidByTextAt_later rfl rfl tie noOwnUnsafe
end Go.Proofs.YthhfbogakdechaaGreatDoor
