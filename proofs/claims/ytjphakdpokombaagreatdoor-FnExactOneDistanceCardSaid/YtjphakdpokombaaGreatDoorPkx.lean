/- What all rows of a seat share: the laid variables, a world that meets them, and the step from a walk over memory to a row. -/
import Derived.Test.YtjphakdpokombaaGreatDoorPkr
import Derived.Test.YtjphakdpokombaaGreatDoorRows
import Derived.Test.YtjphakdpokombaaGreatDoorTie
import Derived.JoinedOf
import Derived.LaidMore
import Derived.ProofKit
import Derived.Stop.Joined
namespace Go.Proofs.YtjphakdpokombaaGreatDoor
open Go Go.M Go.ChangeShapes Go.WideShapes Go.ChangeAt Go.RowKit
set_option maxRecDepth 100000
theorem own:ownKnob Tryz.prog.godebug=none:=by kernel_rfl
def laidL:List (String×DataW Unit):=[("errors.errorType",Rows.laid_errors_errorType),("io.ErrShortBuffer",Rows.laid_io_ErrShortBuffer),("io.EOF",Rows.laid_io_EOF),("io.ErrUnexpectedEOF",Rows.laid_io_ErrUnexpectedEOF),("loop.example/pub-inflation/pub/inflate.codeOrder",Rows.laid_loop_example_pub_inflation_pub_inflate_codeOrder)]
theorem door_met (os:Os) (args:Array Value):laidMetH Tryz.prog laidL ((World.doorLaid Tryz.prog 400 os).forCall (fun _ _=>0) ⟨#[],args,[]⟩).memory:=
 laidMetH_of_parts3 (fuel:=8) (laidMet_of_run' 8 (by kernel_rfl) (by kernel_rfl)) (by kernel_rfl) (by kernel_rfl)
theorem glob_laid {W:World} (h:laidMetH Tryz.prog laidL W):∃ E,Glob E W.heap:=by
 have h':laidMet PP [("io.ErrShortBuffer",shortD),("io.EOF",eofD),("io.ErrUnexpectedEOF",cutD),("loop.example/pub-inflation/pub/inflate.codeOrder",orderD)] W∧handlesMet PP [("errors.errorType",typeD)] W:=h
 exact glob_of_laid h'.1 h'.2 (by simp) (by simp) (by simp) (by simp)
theorem readable:laidOutB PP=true:=by kernel_rfl
theorem codeVar:readsB PP (varTs PP ["loop.example/pub-inflation/pub/inflate.codeOrder"])=true:=by kernel_rfl
theorem shaped (os:Os) (args:Array Value):((World.doorLaid Tryz.prog 400 os).forCall (fun _ _=>0) ⟨#[],args,[]⟩).Shaped Tryz.prog:=World.shaped_of_RefB (by kernel_rfl) (by kernel_rfl)
end Go.Proofs.YtjphakdpokombaaGreatDoor
