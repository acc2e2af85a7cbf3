/-
  NARROWER THAN 'FOR EVERY INPUT', by the rows' own cells (each row's printed sentence says how): FnExactLiterals: laid · FnExactOneDistance: laid.
  DERIVED. THE GIVEN ROWS OF THIS SEAT. 2 by the template 'for every input the law returns true; each argument reads behind the call as it read before'; 0 by the template 'total and deterministic' (their statements: YtjphakdpokombaaGreatDoorTotals.lean).
  GIVEN WITH THE SEED: the statements are not yours to turn. If you find one false, say at which input.
  Laid BY PROGRAM, IN A SANDBOX (cutbox-rows.mjs): the forced cells as the released guide's own fill.sh prints them over the translation c97ee0da2ed8f26f… (all of the seat's roots in one cut). By AI agents, Wed Nov 11 2026. No macro, syntax, notation, axiom, sorry.
-/
import Derived.Test.YtjphakdpokombaaGreatDoorChecked
import GoSem.Claim
import GoSem.ClaimJoined
import GoSem.ClaimMapViews
import Derived.JoinedTies
import Derived.KernelRfl
namespace Go.Proofs.YtjphakdpokombaaGreatDoor
/- THE CELL 'sum', in the pinned program and in every row, IS THE sha256 OF THE DUMP (.gsa) THAT YtjphakdpokombaaGreatDoorProg.lean LOADS. Nothing in Lean hashes anything: it is a label: what it is worth is what the hold of that sum in a sandbox is worth. -/
noncomputable def Tryz.pinned : Pinned := { name := "ytjphakdpokombaagreatdoor", sum := "c97ee0da2ed8f26f4aa74754c67069933da3ad306414763dd6ff03dd7cb893aa", checked := Tryz.checked }
namespace Rows
def none {H : Type} : Left H := { results := [], args := [] }

/- WHAT THE LISTED PACKAGE-LEVEL VARIABLES READ AS WHEN THE CALL BEGINS. Each datum BY PROGRAM (the guide's laid-datum.mjs) off the statement by which the dump's own 'gosem.cut.vars' lays the variable. In a bare row this is a premise. The card (YtjphakdpokombaaGreatDoorCards.lean) ties it to the program's text. -/
def laid_errors_errorType {H : Type} : DataW H := .iface "internal/reflectlite.rtype" (.agg [.ptr (.lit (.string [101, 114, 114, 111, 114]))])
def laid_io_ErrShortBuffer {H : Type} : DataW H := .iface "*errors.errorString" (.ptr (.agg [.lit (.string [115, 104, 111, 114, 116, 32, 98, 117, 102, 102, 101, 114])]))
def laid_io_EOF {H : Type} : DataW H := .iface "*errors.errorString" (.ptr (.agg [.lit (.string [69, 79, 70])]))
def laid_io_ErrUnexpectedEOF {H : Type} : DataW H := .iface "*errors.errorString" (.ptr (.agg [.lit (.string [117, 110, 101, 120, 112, 101, 99, 116, 101, 100, 32, 69, 79, 70])]))
def laid_loop_example_pub_inflation_pub_inflate_codeOrder {H : Type} : DataW H := .agg [.lit (.int .i64 16), .lit (.int .i64 17), .lit (.int .i64 18), .lit (.int .i64 0), .lit (.int .i64 8), .lit (.int .i64 7), .lit (.int .i64 9), .lit (.int .i64 6), .lit (.int .i64 10), .lit (.int .i64 5), .lit (.int .i64 11), .lit (.int .i64 4), .lit (.int .i64 12), .lit (.int .i64 3), .lit (.int .i64 13), .lit (.int .i64 2), .lit (.int .i64 14), .lit (.int .i64 1), .lit (.int .i64 15)]

/-- 'laws.FnExactLiterals': WHATEVER THE INPUT: true; the input reads as it did. -/
def fnExactLiteralsSpec : ChangeSpec := { name := "fnExactLiterals", vars := ["loop.example/pub-inflation/pub/inflate.codeOrder"], fn := fun _ => fun
  | [d, g1] => { results := [.lit (.bool true)], args := [d], vars := [g1] }
  | _ => none }
def fnExactLiteralsRow : OpenClaim := { program := "ytjphakdpokombaagreatdoor", sum := "c97ee0da2ed8f26f4aa74754c67069933da3ad306414763dd6ff03dd7cb893aa", func := "loop.example/pub-inflation/laws.FnExactLiterals", spec := "fnExactLiterals", inPlace := ["internal/reflectlite.ValueOf", "(internal/reflectlite.Value).Type", "(internal/reflectlite.Value).IsNil", "internal/reflectlite.TypeOf", "(internal/reflectlite.Value).Elem", "(internal/reflectlite.Value).Set"], unfollowed := true, recurses := true, named := ["io.EOF", "io.ErrUnexpectedEOF", "io.ErrShortBuffer", "loop.example/pub-inflation/pub/inflate.codeOrder", "errors.errorType"], apart := false, laid := [("errors.errorType", laid_errors_errorType), ("io.ErrShortBuffer", laid_io_ErrShortBuffer), ("io.EOF", laid_io_EOF), ("io.ErrUnexpectedEOF", laid_io_ErrUnexpectedEOF), ("loop.example/pub-inflation/pub/inflate.codeOrder", laid_loop_example_pub_inflation_pub_inflate_codeOrder)] }
def FnExactLiteralsSaid : Prop := fnExactLiteralsRow.holds Tryz.pinned (OpenSpec.ofChange fnExactLiteralsSpec)

/-- ITS FALSE NEIGHBOUR: 'it returns false'. Refute it at one input. -/
def fnExactLiteralsWrong : ChangeSpec := { name := "fnExactLiterals", vars := ["loop.example/pub-inflation/pub/inflate.codeOrder"], fn := fun _ => fun
  | [d, g1] => { results := [.lit (.bool false)], args := [d], vars := [g1] }
  | _ => none }
def FnExactLiteralsWrongFalsely : Prop := fnExactLiteralsRow.holds Tryz.pinned (OpenSpec.ofChange fnExactLiteralsWrong)

/-- 'laws.FnExactOneDistance': WHATEVER THE INPUT: true; the input reads as it did. -/
def fnExactOneDistanceSpec : ChangeSpec := { name := "fnExactOneDistance", vars := ["loop.example/pub-inflation/pub/inflate.codeOrder"], fn := fun _ => fun
  | [d, g1] => { results := [.lit (.bool true)], args := [d], vars := [g1] }
  | _ => none }
def fnExactOneDistanceRow : OpenClaim := { program := "ytjphakdpokombaagreatdoor", sum := "c97ee0da2ed8f26f4aa74754c67069933da3ad306414763dd6ff03dd7cb893aa", func := "loop.example/pub-inflation/laws.FnExactOneDistance", spec := "fnExactOneDistance", inPlace := ["internal/reflectlite.ValueOf", "(internal/reflectlite.Value).Type", "(internal/reflectlite.Value).IsNil", "internal/reflectlite.TypeOf", "(internal/reflectlite.Value).Elem", "(internal/reflectlite.Value).Set"], unfollowed := true, recurses := true, named := ["io.EOF", "io.ErrUnexpectedEOF", "io.ErrShortBuffer", "loop.example/pub-inflation/pub/inflate.codeOrder", "errors.errorType"], apart := false, laid := [("errors.errorType", laid_errors_errorType), ("io.ErrShortBuffer", laid_io_ErrShortBuffer), ("io.EOF", laid_io_EOF), ("io.ErrUnexpectedEOF", laid_io_ErrUnexpectedEOF), ("loop.example/pub-inflation/pub/inflate.codeOrder", laid_loop_example_pub_inflation_pub_inflate_codeOrder)] }
def FnExactOneDistanceSaid : Prop := fnExactOneDistanceRow.holds Tryz.pinned (OpenSpec.ofChange fnExactOneDistanceSpec)

/-- ITS FALSE NEIGHBOUR: 'it returns false'. Refute it at one input. -/
def fnExactOneDistanceWrong : ChangeSpec := { name := "fnExactOneDistance", vars := ["loop.example/pub-inflation/pub/inflate.codeOrder"], fn := fun _ => fun
  | [d, g1] => { results := [.lit (.bool false)], args := [d], vars := [g1] }
  | _ => none }
def FnExactOneDistanceWrongFalsely : Prop := fnExactOneDistanceRow.holds Tryz.pinned (OpenSpec.ofChange fnExactOneDistanceWrong)

/- THE SECOND FORM. 'bulk': how many values and letters a reading holds, each counted each time it is reached (what is shared counts as often as it is met; a slice's spare places count too). A statement '..UptoSaid' is the law's where the arguments, and the package variables that the reading takes, are together of bulk at most 1048576: NARROWER than '..Said'. Prove '..Said' where nothing that the law and all that it calls make is longer than what came in: it says more and counts as full. Else prove '..UptoSaid'. A law counts once. -/
mutual
def uptoBulk {H : Type} : DataW H → Nat
  | .lit (.string bytes) => bytes.length + 1
  | .lit _ => 1
  | .nil => 1
  | .ptr d => uptoBulk d + 1
  | .slice elems spare => uptoBulkAll elems + uptoBulkAll spare + 1
  | .agg parts => uptoBulkAll parts + 1
  | .iface _ d => uptoBulk d + 1
  | .map entries => uptoBulkEntries entries + 1
  | .held _ => 1
def uptoBulkAll {H : Type} : List (DataW H) → Nat
  | [] => 0
  | d :: r => uptoBulk d + uptoBulkAll r
def uptoBulkEntries {H : Type} : List (Lit × DataW H) → Nat
  | [] => 0
  | x :: r => uptoBulkEntry x + uptoBulkEntries r
def uptoBulkEntry {H : Type} : Lit × DataW H → Nat
  | (.string bytes, d) => bytes.length + uptoBulk d + 1
  | (_, d) => uptoBulk d + 1
 end
def uptoSmall : (H : Type) → List (DataW H) → Bool := fun _ ds => decide (uptoBulkAll ds ≤ 1048576)
def OpenSpec.upto (s : _root_.Go.ChangeSpec) : _root_.Go.OpenSpec := { _root_.Go.OpenSpec.ofChange s with cond := some uptoSmall }

/-- 'laws.FnExactLiterals', WHERE WHAT IT READS IS OF BULK AT MOST 1048576: true; the input reads as it did. -/
def fnExactLiteralsUptoRow : OpenClaim := { program := "ytjphakdpokombaagreatdoor", sum := "c97ee0da2ed8f26f4aa74754c67069933da3ad306414763dd6ff03dd7cb893aa", func := "loop.example/pub-inflation/laws.FnExactLiterals", spec := "fnExactLiterals", inPlace := ["internal/reflectlite.ValueOf", "(internal/reflectlite.Value).Type", "(internal/reflectlite.Value).IsNil", "internal/reflectlite.TypeOf", "(internal/reflectlite.Value).Elem", "(internal/reflectlite.Value).Set"], unfollowed := true, recurses := true, named := ["io.EOF", "io.ErrUnexpectedEOF", "io.ErrShortBuffer", "loop.example/pub-inflation/pub/inflate.codeOrder", "errors.errorType"], apart := false, laid := [("errors.errorType", laid_errors_errorType), ("io.ErrShortBuffer", laid_io_ErrShortBuffer), ("io.EOF", laid_io_EOF), ("io.ErrUnexpectedEOF", laid_io_ErrUnexpectedEOF), ("loop.example/pub-inflation/pub/inflate.codeOrder", laid_loop_example_pub_inflation_pub_inflate_codeOrder)], narrowed := true }
def FnExactLiteralsUptoSaid : Prop := fnExactLiteralsUptoRow.holds Tryz.pinned (OpenSpec.upto fnExactLiteralsSpec)

/-- 'laws.FnExactOneDistance', WHERE WHAT IT READS IS OF BULK AT MOST 1048576: true; the input reads as it did. -/
def fnExactOneDistanceUptoRow : OpenClaim := { program := "ytjphakdpokombaagreatdoor", sum := "c97ee0da2ed8f26f4aa74754c67069933da3ad306414763dd6ff03dd7cb893aa", func := "loop.example/pub-inflation/laws.FnExactOneDistance", spec := "fnExactOneDistance", inPlace := ["internal/reflectlite.ValueOf", "(internal/reflectlite.Value).Type", "(internal/reflectlite.Value).IsNil", "internal/reflectlite.TypeOf", "(internal/reflectlite.Value).Elem", "(internal/reflectlite.Value).Set"], unfollowed := true, recurses := true, named := ["io.EOF", "io.ErrUnexpectedEOF", "io.ErrShortBuffer", "loop.example/pub-inflation/pub/inflate.codeOrder", "errors.errorType"], apart := false, laid := [("errors.errorType", laid_errors_errorType), ("io.ErrShortBuffer", laid_io_ErrShortBuffer), ("io.EOF", laid_io_EOF), ("io.ErrUnexpectedEOF", laid_io_ErrUnexpectedEOF), ("loop.example/pub-inflation/pub/inflate.codeOrder", laid_loop_example_pub_inflation_pub_inflate_codeOrder)], narrowed := true }
def FnExactOneDistanceUptoSaid : Prop := fnExactOneDistanceUptoRow.holds Tryz.pinned (OpenSpec.upto fnExactOneDistanceSpec)

end Rows
end Go.Proofs.YtjphakdpokombaaGreatDoor
