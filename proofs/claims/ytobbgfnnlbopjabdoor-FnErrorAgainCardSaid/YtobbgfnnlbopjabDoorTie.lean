/-
  DERIVED. GIVEN WITH THE SEED: THE PROGRAM's TIES (one call each: nine closed facts by the kernel) AND EACH ROW's TIE, after the 31st guide's Derived/Test/Toyas{Tie, Card}.lean. No idea stands in it: it is a product of the set-up. Laid BY PROGRAM, IN A SANDBOX (cutbox-door.mjs). By AI agents, Wed Nov 11 2026. No macro, syntax, notation, axiom, sorry.
-/
import Derived.Test.YtobbgfnnlbopjabDoorRows
import Derived.LaidByTextLater
import Derived.SevenTiedAt
import Derived.LaidSub
import Derived.LaidOnce
namespace Go.Proofs.YtobbgfnnlbopjabDoor
open Go
set_option maxRecDepth 100000
theorem seatTie1 : Tryd.prog.laidByTextLater [("errors.errorType", Rows.laid_errors_errorType), ("io.ErrShortBuffer", Rows.laid_io_ErrShortBuffer), ("io.EOF", Rows.laid_io_EOF), ("io.ErrUnexpectedEOF", Rows.laid_io_ErrUnexpectedEOF), ("loop.example/pub-inflation/pub/inflate.codeOrder", Rows.laid_loop_example_pub_inflation_pub_inflate_codeOrder)] [.handle, .sentinel, .sentinel, .sentinel, .data] true :=
  Program.laidByTextLater_by_one 116 8 20 (by kernel_rfl) (by kernel_rfl) (by kernel_rfl) (by kernel_rfl) (by kernel_rfl) (by kernel_rfl) (fun _ _ => by kernel_rfl)
theorem noOwnUnsafe : Tryd.pinned.checked.prog.headLifts.contains "ownunsafe" = false := by kernel_rfl
theorem tie : Tryd.prog.laidByTextLater [("errors.errorType", Rows.laid_errors_errorType), ("io.ErrShortBuffer", Rows.laid_io_ErrShortBuffer), ("io.EOF", Rows.laid_io_EOF), ("io.ErrUnexpectedEOF", Rows.laid_io_ErrUnexpectedEOF), ("loop.example/pub-inflation/pub/inflate.codeOrder", Rows.laid_loop_example_pub_inflation_pub_inflate_codeOrder)] [.handle, .sentinel, .sentinel, .sentinel, .data] true :=
  Program.laidByTextLater.sub seatTie1 ["errors.errorType", "io.ErrShortBuffer", "io.EOF", "io.ErrUnexpectedEOF", "loop.example/pub-inflation/pub/inflate.codeOrder"] (by kernel_rfl) (by kernel_rfl)
theorem fnExactDict_row_tie : Rows.fnExactDictRow.laidByTextAt .later Tryd.pinned [.handle, .sentinel, .sentinel, .sentinel, .data] true :=
  OpenClaim.laidByTextAt_later rfl rfl tie noOwnUnsafe
theorem fnExactDictWrong_row_tie : Rows.fnExactDictWrongRow.laidByTextAt .later Tryd.pinned [.handle, .sentinel, .sentinel, .sentinel, .data] true :=
  OpenClaim.laidByTextAt_later rfl rfl tie noOwnUnsafe
theorem fnFew_row_tie : Rows.fnFewRow.laidByTextAt .later Tryd.pinned [.handle, .sentinel, .sentinel, .sentinel, .data] true :=
  OpenClaim.laidByTextAt_later rfl rfl tie noOwnUnsafe
theorem fnExactLeft_row_tie : Rows.fnExactLeftRow.laidByTextAt .later Tryd.pinned [.handle, .sentinel, .sentinel, .sentinel, .data] true :=
  OpenClaim.laidByTextAt_later rfl rfl tie noOwnUnsafe
theorem fnNothing_row_tie : Rows.fnNothingRow.laidByTextAt .later Tryd.pinned [.handle, .sentinel, .sentinel, .sentinel, .data] true :=
  OpenClaim.laidByTextAt_later rfl rfl tie noOwnUnsafe
theorem fnErrorAgain_row_tie : Rows.fnErrorAgainRow.laidByTextAt .later Tryd.pinned [.handle, .sentinel, .sentinel, .sentinel, .data] true :=
  OpenClaim.laidByTextAt_later rfl rfl tie noOwnUnsafe
theorem fnExactDictUpto_row_tie : Rows.fnExactDictUptoRow.laidByTextAt .later Tryd.pinned [.handle, .sentinel, .sentinel, .sentinel, .data] true :=
  OpenClaim.laidByTextAt_later rfl rfl tie noOwnUnsafe
theorem fnExactDictWrongUpto_row_tie : Rows.fnExactDictWrongUptoRow.laidByTextAt .later Tryd.pinned [.handle, .sentinel, .sentinel, .sentinel, .data] true :=
  OpenClaim.laidByTextAt_later rfl rfl tie noOwnUnsafe
theorem fnFewUpto_row_tie : Rows.fnFewUptoRow.laidByTextAt .later Tryd.pinned [.handle, .sentinel, .sentinel, .sentinel, .data] true :=
  OpenClaim.laidByTextAt_later rfl rfl tie noOwnUnsafe
theorem fnExactLeftUpto_row_tie : Rows.fnExactLeftUptoRow.laidByTextAt .later Tryd.pinned [.handle, .sentinel, .sentinel, .sentinel, .data] true :=
  OpenClaim.laidByTextAt_later rfl rfl tie noOwnUnsafe
theorem fnNothingUpto_row_tie : Rows.fnNothingUptoRow.laidByTextAt .later Tryd.pinned [.handle, .sentinel, .sentinel, .sentinel, .data] true :=
  OpenClaim.laidByTextAt_later rfl rfl tie noOwnUnsafe
theorem fnErrorAgainUpto_row_tie : Rows.fnErrorAgainUptoRow.laidByTextAt .later Tryd.pinned [.handle, .sentinel, .sentinel, .sentinel, .data] true :=
  OpenClaim.laidByTextAt_later rfl rfl tie noOwnUnsafe
end Go.Proofs.YtobbgfnnlbopjabDoor
