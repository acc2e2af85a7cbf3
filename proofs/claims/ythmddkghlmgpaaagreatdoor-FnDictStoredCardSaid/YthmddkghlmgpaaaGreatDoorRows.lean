/-
  NARROWER THAN 'FOR EVERY INPUT', by the rows' own cells (each row's printed sentence says how): FnDictAhead: laid · FnDictLast: laid · FnDictStored: laid · FnJoined: laid · FnTwoWays: laid · FnUnended: laid.
  DERIVED. THE GIVEN ROWS OF THIS SEAT. 6 by the template 'for every input the law returns true; each argument reads behind the call as it read before'; 0 by the template 'total and deterministic' (their statements: YthmddkghlmgpaaaGreatDoorTotals.lean).
  GIVEN WITH THE SEED: the statements are not yours to turn. If you find one false, say at which input.
  Laid BY PROGRAM, IN A SANDBOX (cutbox-rows.mjs): the forced cells as the released guide's own fill.sh prints them over the translation 5ca3c11ceab08412… (all of the seat's roots in one cut). By AI agents, Wed Nov 11 2026. No macro, syntax, notation, axiom, sorry.
-/
import Derived.Test.YthmddkghlmgpaaaGreatDoorChecked
import GoSem.Claim
import GoSem.ClaimJoined
import GoSem.ClaimMapViews
import Derived.JoinedTies
import Derived.KernelRfl
namespace Go.Proofs.YthmddkghlmgpaaaGreatDoor
/- THE CELL 'sum', in the pinned program and in every row, IS THE sha256 OF THE DUMP (.gsa) THAT YthmddkghlmgpaaaGreatDoorProg.lean LOADS. Nothing in Lean hashes anything: it is a label: what it is worth is what the hold of that sum in a sandbox is worth. -/
noncomputable def Tryz.pinned : Pinned := { name := "ythmddkghlmgpaaagreatdoor", sum := "5ca3c11ceab0841247d71bd362c9b777ad3ae26bddd4396e6ac2e21e3f337bc8", checked := Tryz.checked }
namespace Rows
def none {H : Type} : Left H := { results := [], args := [] }

/- WHAT THE LISTED PACKAGE-LEVEL VARIABLES READ AS WHEN THE CALL BEGINS. Each datum BY PROGRAM (the guide's laid-datum.mjs) off the statement by which the dump's own 'gosem.cut.vars' lays the variable. In a bare row this is a premise. The card (YthmddkghlmgpaaaGreatDoorCards.lean) ties it to the program's text. -/
def laid_errors_errorType {H : Type} : DataW H := .iface "internal/reflectlite.rtype" (.agg [.ptr (.lit (.string [101, 114, 114, 111, 114]))])
def laid_io_ErrShortBuffer {H : Type} : DataW H := .iface "*errors.errorString" (.ptr (.agg [.lit (.string [115, 104, 111, 114, 116, 32, 98, 117, 102, 102, 101, 114])]))
def laid_io_EOF {H : Type} : DataW H := .iface "*errors.errorString" (.ptr (.agg [.lit (.string [69, 79, 70])]))
def laid_io_ErrUnexpectedEOF {H : Type} : DataW H := .iface "*errors.errorString" (.ptr (.agg [.lit (.string [117, 110, 101, 120, 112, 101, 99, 116, 101, 100, 32, 69, 79, 70])]))
def laid_loop_example_pub_inflation_pub_inflate_codeOrder {H : Type} : DataW H := .agg [.lit (.int .i64 16), .lit (.int .i64 17), .lit (.int .i64 18), .lit (.int .i64 0), .lit (.int .i64 8), .lit (.int .i64 7), .lit (.int .i64 9), .lit (.int .i64 6), .lit (.int .i64 10), .lit (.int .i64 5), .lit (.int .i64 11), .lit (.int .i64 4), .lit (.int .i64 12), .lit (.int .i64 3), .lit (.int .i64 13), .lit (.int .i64 2), .lit (.int .i64 14), .lit (.int .i64 1), .lit (.int .i64 15)]

/-- 'laws.FnDictAhead': WHATEVER THE INPUT: true; the input reads as it did. -/
def fnDictAheadSpec : ChangeSpec := { name := "fnDictAhead", vars := ["loop.example/pub-inflation/pub/inflate.codeOrder"], fn := fun _ => fun
  | [d, g1] => { results := [.lit (.bool true)], args := [d], vars := [g1] }
  | _ => none }
def fnDictAheadRow : OpenClaim := { program := "ythmddkghlmgpaaagreatdoor", sum := "5ca3c11ceab0841247d71bd362c9b777ad3ae26bddd4396e6ac2e21e3f337bc8", func := "loop.example/pub-inflation/laws.FnDictAhead", spec := "fnDictAhead", inPlace := ["internal/reflectlite.ValueOf", "(internal/reflectlite.Value).Type", "(internal/reflectlite.Value).IsNil", "internal/reflectlite.TypeOf", "(internal/reflectlite.Value).Elem", "(internal/reflectlite.Value).Set"], unfollowed := true, recurses := true, named := ["io.EOF", "io.ErrUnexpectedEOF", "io.ErrShortBuffer", "loop.example/pub-inflation/pub/inflate.codeOrder", "errors.errorType"], apart := false, laid := [("errors.errorType", laid_errors_errorType), ("io.ErrShortBuffer", laid_io_ErrShortBuffer), ("io.EOF", laid_io_EOF), ("io.ErrUnexpectedEOF", laid_io_ErrUnexpectedEOF), ("loop.example/pub-inflation/pub/inflate.codeOrder", laid_loop_example_pub_inflation_pub_inflate_codeOrder)] }
def FnDictAheadSaid : Prop := fnDictAheadRow.holds Tryz.pinned (OpenSpec.ofChange fnDictAheadSpec)

/-- ITS FALSE NEIGHBOUR: 'it returns false'. Refute it at one input. -/
def fnDictAheadWrong : ChangeSpec := { name := "fnDictAhead", vars := ["loop.example/pub-inflation/pub/inflate.codeOrder"], fn := fun _ => fun
  | [d, g1] => { results := [.lit (.bool false)], args := [d], vars := [g1] }
  | _ => none }
def FnDictAheadWrongFalsely : Prop := fnDictAheadRow.holds Tryz.pinned (OpenSpec.ofChange fnDictAheadWrong)

/-- 'laws.FnDictLast': WHATEVER THE INPUT: true; the input reads as it did. -/
def fnDictLastSpec : ChangeSpec := { name := "fnDictLast", vars := ["loop.example/pub-inflation/pub/inflate.codeOrder"], fn := fun _ => fun
  | [d1, d2, g1] => { results := [.lit (.bool true)], args := [d1, d2], vars := [g1] }
  | _ => none }
def fnDictLastRow : OpenClaim := { program := "ythmddkghlmgpaaagreatdoor", sum := "5ca3c11ceab0841247d71bd362c9b777ad3ae26bddd4396e6ac2e21e3f337bc8", func := "loop.example/pub-inflation/laws.FnDictLast", spec := "fnDictLast", inPlace := ["internal/reflectlite.ValueOf", "(internal/reflectlite.Value).Type", "(internal/reflectlite.Value).IsNil", "internal/reflectlite.TypeOf", "(internal/reflectlite.Value).Elem", "(internal/reflectlite.Value).Set"], unfollowed := true, recurses := true, named := ["io.EOF", "io.ErrUnexpectedEOF", "io.ErrShortBuffer", "loop.example/pub-inflation/pub/inflate.codeOrder", "errors.errorType"], apart := false, laid := [("errors.errorType", laid_errors_errorType), ("io.ErrShortBuffer", laid_io_ErrShortBuffer), ("io.EOF", laid_io_EOF), ("io.ErrUnexpectedEOF", laid_io_ErrUnexpectedEOF), ("loop.example/pub-inflation/pub/inflate.codeOrder", laid_loop_example_pub_inflation_pub_inflate_codeOrder)] }
def FnDictLastSaid : Prop := fnDictLastRow.holds Tryz.pinned (OpenSpec.ofChange fnDictLastSpec)

/-- ITS FALSE NEIGHBOUR: 'it returns false'. Refute it at one input. -/
def fnDictLastWrong : ChangeSpec := { name := "fnDictLast", vars := ["loop.example/pub-inflation/pub/inflate.codeOrder"], fn := fun _ => fun
  | [d1, d2, g1] => { results := [.lit (.bool false)], args := [d1, d2], vars := [g1] }
  | _ => none }
def FnDictLastWrongFalsely : Prop := fnDictLastRow.holds Tryz.pinned (OpenSpec.ofChange fnDictLastWrong)

/-- 'laws.FnDictStored': WHATEVER THE INPUT: true; the input reads as it did. -/
def fnDictStoredSpec : ChangeSpec := { name := "fnDictStored", vars := ["loop.example/pub-inflation/pub/inflate.codeOrder"], fn := fun _ => fun
  | [d1, d2, g1] => { results := [.lit (.bool true)], args := [d1, d2], vars := [g1] }
  | _ => none }
def fnDictStoredRow : OpenClaim := { program := "ythmddkghlmgpaaagreatdoor", sum := "5ca3c11ceab0841247d71bd362c9b777ad3ae26bddd4396e6ac2e21e3f337bc8", func := "loop.example/pub-inflation/laws.FnDictStored", spec := "fnDictStored", inPlace := ["internal/reflectlite.ValueOf", "(internal/reflectlite.Value).Type", "(internal/reflectlite.Value).IsNil", "internal/reflectlite.TypeOf", "(internal/reflectlite.Value).Elem", "(internal/reflectlite.Value).Set"], unfollowed := true, recurses := true, named := ["io.EOF", "io.ErrUnexpectedEOF", "io.ErrShortBuffer", "loop.example/pub-inflation/pub/inflate.codeOrder", "errors.errorType"], apart := false, laid := [("errors.errorType", laid_errors_errorType), ("io.ErrShortBuffer", laid_io_ErrShortBuffer), ("io.EOF", laid_io_EOF), ("io.ErrUnexpectedEOF", laid_io_ErrUnexpectedEOF), ("loop.example/pub-inflation/pub/inflate.codeOrder", laid_loop_example_pub_inflation_pub_inflate_codeOrder)] }
def FnDictStoredSaid : Prop := fnDictStoredRow.holds Tryz.pinned (OpenSpec.ofChange fnDictStoredSpec)

/-- ITS FALSE NEIGHBOUR: 'it returns false'. Refute it at one input. -/
def fnDictStoredWrong : ChangeSpec := { name := "fnDictStored", vars := ["loop.example/pub-inflation/pub/inflate.codeOrder"], fn := fun _ => fun
  | [d1, d2, g1] => { results := [.lit (.bool false)], args := [d1, d2], vars := [g1] }
  | _ => none }
def FnDictStoredWrongFalsely : Prop := fnDictStoredRow.holds Tryz.pinned (OpenSpec.ofChange fnDictStoredWrong)

/-- 'laws.FnJoined': WHATEVER THE INPUT: true; the input reads as it did. -/
def fnJoinedSpec : ChangeSpec := { name := "fnJoined", vars := ["loop.example/pub-inflation/pub/inflate.codeOrder"], fn := fun _ => fun
  | [d1, d2, g1] => { results := [.lit (.bool true)], args := [d1, d2], vars := [g1] }
  | _ => none }
def fnJoinedRow : OpenClaim := { program := "ythmddkghlmgpaaagreatdoor", sum := "5ca3c11ceab0841247d71bd362c9b777ad3ae26bddd4396e6ac2e21e3f337bc8", func := "loop.example/pub-inflation/laws.FnJoined", spec := "fnJoined", inPlace := ["internal/reflectlite.ValueOf", "(internal/reflectlite.Value).Type", "(internal/reflectlite.Value).IsNil", "internal/reflectlite.TypeOf", "(internal/reflectlite.Value).Elem", "(internal/reflectlite.Value).Set"], unfollowed := true, recurses := true, named := ["io.EOF", "io.ErrUnexpectedEOF", "io.ErrShortBuffer", "loop.example/pub-inflation/pub/inflate.codeOrder", "errors.errorType"], apart := false, laid := [("errors.errorType", laid_errors_errorType), ("io.ErrShortBuffer", laid_io_ErrShortBuffer), ("io.EOF", laid_io_EOF), ("io.ErrUnexpectedEOF", laid_io_ErrUnexpectedEOF), ("loop.example/pub-inflation/pub/inflate.codeOrder", laid_loop_example_pub_inflation_pub_inflate_codeOrder)] }
def FnJoinedSaid : Prop := fnJoinedRow.holds Tryz.pinned (OpenSpec.ofChange fnJoinedSpec)

/-- ITS FALSE NEIGHBOUR: 'it returns false'. Refute it at one input. -/
def fnJoinedWrong : ChangeSpec := { name := "fnJoined", vars := ["loop.example/pub-inflation/pub/inflate.codeOrder"], fn := fun _ => fun
  | [d1, d2, g1] => { results := [.lit (.bool false)], args := [d1, d2], vars := [g1] }
  | _ => none }
def FnJoinedWrongFalsely : Prop := fnJoinedRow.holds Tryz.pinned (OpenSpec.ofChange fnJoinedWrong)

/-- 'laws.FnTwoWays': WHATEVER THE INPUT: true; the input reads as it did. -/
def fnTwoWaysSpec : ChangeSpec := { name := "fnTwoWays", vars := ["loop.example/pub-inflation/pub/inflate.codeOrder"], fn := fun _ => fun
  | [d, g1] => { results := [.lit (.bool true)], args := [d], vars := [g1] }
  | _ => none }
def fnTwoWaysRow : OpenClaim := { program := "ythmddkghlmgpaaagreatdoor", sum := "5ca3c11ceab0841247d71bd362c9b777ad3ae26bddd4396e6ac2e21e3f337bc8", func := "loop.example/pub-inflation/laws.FnTwoWays", spec := "fnTwoWays", inPlace := ["internal/reflectlite.ValueOf", "(internal/reflectlite.Value).Type", "(internal/reflectlite.Value).IsNil", "internal/reflectlite.TypeOf", "(internal/reflectlite.Value).Elem", "(internal/reflectlite.Value).Set"], unfollowed := true, recurses := true, named := ["io.EOF", "io.ErrUnexpectedEOF", "io.ErrShortBuffer", "loop.example/pub-inflation/pub/inflate.codeOrder", "errors.errorType"], apart := false, laid := [("errors.errorType", laid_errors_errorType), ("io.ErrShortBuffer", laid_io_ErrShortBuffer), ("io.EOF", laid_io_EOF), ("io.ErrUnexpectedEOF", laid_io_ErrUnexpectedEOF), ("loop.example/pub-inflation/pub/inflate.codeOrder", laid_loop_example_pub_inflation_pub_inflate_codeOrder)] }
def FnTwoWaysSaid : Prop := fnTwoWaysRow.holds Tryz.pinned (OpenSpec.ofChange fnTwoWaysSpec)

/-- ITS FALSE NEIGHBOUR: 'it returns false'. Refute it at one input. -/
def fnTwoWaysWrong : ChangeSpec := { name := "fnTwoWays", vars := ["loop.example/pub-inflation/pub/inflate.codeOrder"], fn := fun _ => fun
  | [d, g1] => { results := [.lit (.bool false)], args := [d], vars := [g1] }
  | _ => none }
def FnTwoWaysWrongFalsely : Prop := fnTwoWaysRow.holds Tryz.pinned (OpenSpec.ofChange fnTwoWaysWrong)

/-- 'laws.FnUnended': WHATEVER THE INPUT: true; the input reads as it did. -/
def fnUnendedSpec : ChangeSpec := { name := "fnUnended", vars := ["loop.example/pub-inflation/pub/inflate.codeOrder"], fn := fun _ => fun
  | [d, g1] => { results := [.lit (.bool true)], args := [d], vars := [g1] }
  | _ => none }
def fnUnendedRow : OpenClaim := { program := "ythmddkghlmgpaaagreatdoor", sum := "5ca3c11ceab0841247d71bd362c9b777ad3ae26bddd4396e6ac2e21e3f337bc8", func := "loop.example/pub-inflation/laws.FnUnended", spec := "fnUnended", inPlace := ["internal/reflectlite.ValueOf", "(internal/reflectlite.Value).Type", "(internal/reflectlite.Value).IsNil", "internal/reflectlite.TypeOf", "(internal/reflectlite.Value).Elem", "(internal/reflectlite.Value).Set"], unfollowed := true, recurses := true, named := ["io.EOF", "io.ErrUnexpectedEOF", "io.ErrShortBuffer", "loop.example/pub-inflation/pub/inflate.codeOrder", "errors.errorType"], apart := false, laid := [("errors.errorType", laid_errors_errorType), ("io.ErrShortBuffer", laid_io_ErrShortBuffer), ("io.EOF", laid_io_EOF), ("io.ErrUnexpectedEOF", laid_io_ErrUnexpectedEOF), ("loop.example/pub-inflation/pub/inflate.codeOrder", laid_loop_example_pub_inflation_pub_inflate_codeOrder)] }
def FnUnendedSaid : Prop := fnUnendedRow.holds Tryz.pinned (OpenSpec.ofChange fnUnendedSpec)

/-- ITS FALSE NEIGHBOUR: 'it returns false'. Refute it at one input. -/
def fnUnendedWrong : ChangeSpec := { name := "fnUnended", vars := ["loop.example/pub-inflation/pub/inflate.codeOrder"], fn := fun _ => fun
  | [d, g1] => { results := [.lit (.bool false)], args := [d], vars := [g1] }
  | _ => none }
def FnUnendedWrongFalsely : Prop := fnUnendedRow.holds Tryz.pinned (OpenSpec.ofChange fnUnendedWrong)

/- THE SECOND FORM. 'bulk': how many values and letters a reading holds, each counted each time it is reached (what is shared counts as often as it is met; a slice's spare places count too). A statement '..UptoSaid' is the law's where the arguments, and the package variables that the reading takes, are together of bulk at most 1048576: NARROWER than '..Said'. Prove '..Said' where nothing that the law and all that it calls make is longer than what came in: it says more and counts as full. Else prove '..UptoSaid'. A law counts once. -/
mutual
def uptoBulk {H : Type} : DataW H → Nat
  | .lit (.string bytes) => bytes.length + 1
  | .lit _ => 1
  | .nil => 1
  | .ptr d => uptoBulk d + 1
  | .slice elems spare => uptoBulkAll elems + uptoBulkAll spare + 1
  | .agg parts => uptoBulkAll parts + 1
  | .iface _ d => uptoBulk d + 1
  | .map entries => uptoBulkEntries entries + 1
  | .held _ => 1
def uptoBulkAll {H : Type} : List (DataW H) → Nat
  | [] => 0
  | d :: r => uptoBulk d + uptoBulkAll r
def uptoBulkEntries {H : Type} : List (Lit × DataW H) → Nat
  | [] => 0
  | x :: r => uptoBulkEntry x + uptoBulkEntries r
def uptoBulkEntry {H : Type} : Lit × DataW H → Nat
  | (.string bytes, d) => bytes.length + uptoBulk d + 1
  | (_, d) => uptoBulk d + 1
 end
def uptoSmall : (H : Type) → List (DataW H) → Bool := fun _ ds => decide (uptoBulkAll ds ≤ 1048576)
def OpenSpec.upto (s : _root_.Go.ChangeSpec) : _root_.Go.OpenSpec := { _root_.Go.OpenSpec.ofChange s with cond := some uptoSmall }

/-- 'laws.FnDictAhead', WHERE WHAT IT READS IS OF BULK AT MOST 1048576: true; the input reads as it did. -/
def fnDictAheadUptoRow : OpenClaim := { program := "ythmddkghlmgpaaagreatdoor", sum := "5ca3c11ceab0841247d71bd362c9b777ad3ae26bddd4396e6ac2e21e3f337bc8", func := "loop.example/pub-inflation/laws.FnDictAhead", spec := "fnDictAhead", inPlace := ["internal/reflectlite.ValueOf", "(internal/reflectlite.Value).Type", "(internal/reflectlite.Value).IsNil", "internal/reflectlite.TypeOf", "(internal/reflectlite.Value).Elem", "(internal/reflectlite.Value).Set"], unfollowed := true, recurses := true, named := ["io.EOF", "io.ErrUnexpectedEOF", "io.ErrShortBuffer", "loop.example/pub-inflation/pub/inflate.codeOrder", "errors.errorType"], apart := false, laid := [("errors.errorType", laid_errors_errorType), ("io.ErrShortBuffer", laid_io_ErrShortBuffer), ("io.EOF", laid_io_EOF), ("io.ErrUnexpectedEOF", laid_io_ErrUnexpectedEOF), ("loop.example/pub-inflation/pub/inflate.codeOrder", laid_loop_example_pub_inflation_pub_inflate_codeOrder)], narrowed := true }
def FnDictAheadUptoSaid : Prop := fnDictAheadUptoRow.holds Tryz.pinned (OpenSpec.upto fnDictAheadSpec)

/-- 'laws.FnDictLast', WHERE WHAT IT READS IS OF BULK AT MOST 1048576: true; the input reads as it did. -/
def fnDictLastUptoRow : OpenClaim := { program := "ythmddkghlmgpaaagreatdoor", sum := "5ca3c11ceab0841247d71bd362c9b777ad3ae26bddd4396e6ac2e21e3f337bc8", func := "loop.example/pub-inflation/laws.FnDictLast", spec := "fnDictLast", inPlace := ["internal/reflectlite.ValueOf", "(internal/reflectlite.Value).Type", "(internal/reflectlite.Value).IsNil", "internal/reflectlite.TypeOf", "(internal/reflectlite.Value).Elem", "(internal/reflectlite.Value).Set"], unfollowed := true, recurses := true, named := ["io.EOF", "io.ErrUnexpectedEOF", "io.ErrShortBuffer", "loop.example/pub-inflation/pub/inflate.codeOrder", "errors.errorType"], apart := false, laid := [("errors.errorType", laid_errors_errorType), ("io.ErrShortBuffer", laid_io_ErrShortBuffer), ("io.EOF", laid_io_EOF), ("io.ErrUnexpectedEOF", laid_io_ErrUnexpectedEOF), ("loop.example/pub-inflation/pub/inflate.codeOrder", laid_loop_example_pub_inflation_pub_inflate_codeOrder)], narrowed := true }
def FnDictLastUptoSaid : Prop := fnDictLastUptoRow.holds Tryz.pinned (OpenSpec.upto fnDictLastSpec)

/-- 'laws.FnDictStored', WHERE WHAT IT READS IS OF BULK AT MOST 1048576: true; the input reads as it did. -/
def fnDictStoredUptoRow : OpenClaim := { program := "ythmddkghlmgpaaagreatdoor", sum := "5ca3c11ceab0841247d71bd362c9b777ad3ae26bddd4396e6ac2e21e3f337bc8", func := "loop.example/pub-inflation/laws.FnDictStored", spec := "fnDictStored", inPlace := ["internal/reflectlite.ValueOf", "(internal/reflectlite.Value).Type", "(internal/reflectlite.Value).IsNil", "internal/reflectlite.TypeOf", "(internal/reflectlite.Value).Elem", "(internal/reflectlite.Value).Set"], unfollowed := true, recurses := true, named := ["io.EOF", "io.ErrUnexpectedEOF", "io.ErrShortBuffer", "loop.example/pub-inflation/pub/inflate.codeOrder", "errors.errorType"], apart := false, laid := [("errors.errorType", laid_errors_errorType), ("io.ErrShortBuffer", laid_io_ErrShortBuffer), ("io.EOF", laid_io_EOF), ("io.ErrUnexpectedEOF", laid_io_ErrUnexpectedEOF), ("loop.example/pub-inflation/pub/inflate.codeOrder", laid_loop_example_pub_inflation_pub_inflate_codeOrder)], narrowed := true }
def FnDictStoredUptoSaid : Prop := fnDictStoredUptoRow.holds Tryz.pinned (OpenSpec.upto fnDictStoredSpec)

/-- 'laws.FnJoined', WHERE WHAT IT READS IS OF BULK AT MOST 1048576: true; the input reads as it did. -/
def fnJoinedUptoRow : OpenClaim := { program := "ythmddkghlmgpaaagreatdoor", sum := "5ca3c11ceab0841247d71bd362c9b777ad3ae26bddd4396e6ac2e21e3f337bc8", func := "loop.example/pub-inflation/laws.FnJoined", spec := "fnJoined", inPlace := ["internal/reflectlite.ValueOf", "(internal/reflectlite.Value).Type", "(internal/reflectlite.Value).IsNil", "internal/reflectlite.TypeOf", "(internal/reflectlite.Value).Elem", "(internal/reflectlite.Value).Set"], unfollowed := true, recurses := true, named := ["io.EOF", "io.ErrUnexpectedEOF", "io.ErrShortBuffer", "loop.example/pub-inflation/pub/inflate.codeOrder", "errors.errorType"], apart := false, laid := [("errors.errorType", laid_errors_errorType), ("io.ErrShortBuffer", laid_io_ErrShortBuffer), ("io.EOF", laid_io_EOF), ("io.ErrUnexpectedEOF", laid_io_ErrUnexpectedEOF), ("loop.example/pub-inflation/pub/inflate.codeOrder", laid_loop_example_pub_inflation_pub_inflate_codeOrder)], narrowed := true }
def FnJoinedUptoSaid : Prop := fnJoinedUptoRow.holds Tryz.pinned (OpenSpec.upto fnJoinedSpec)

/-- 'laws.FnTwoWays', WHERE WHAT IT READS IS OF BULK AT MOST 1048576: true; the input reads as it did. -/
def fnTwoWaysUptoRow : OpenClaim := { program := "ythmddkghlmgpaaagreatdoor", sum := "5ca3c11ceab0841247d71bd362c9b777ad3ae26bddd4396e6ac2e21e3f337bc8", func := "loop.example/pub-inflation/laws.FnTwoWays", spec := "fnTwoWays", inPlace := ["internal/reflectlite.ValueOf", "(internal/reflectlite.Value).Type", "(internal/reflectlite.Value).IsNil", "internal/reflectlite.TypeOf", "(internal/reflectlite.Value).Elem", "(internal/reflectlite.Value).Set"], unfollowed := true, recurses := true, named := ["io.EOF", "io.ErrUnexpectedEOF", "io.ErrShortBuffer", "loop.example/pub-inflation/pub/inflate.codeOrder", "errors.errorType"], apart := false, laid := [("errors.errorType", laid_errors_errorType), ("io.ErrShortBuffer", laid_io_ErrShortBuffer), ("io.EOF", laid_io_EOF), ("io.ErrUnexpectedEOF", laid_io_ErrUnexpectedEOF), ("loop.example/pub-inflation/pub/inflate.codeOrder", laid_loop_example_pub_inflation_pub_inflate_codeOrder)], narrowed := true }
def FnTwoWaysUptoSaid : Prop := fnTwoWaysUptoRow.holds Tryz.pinned (OpenSpec.upto fnTwoWaysSpec)

/-- 'laws.FnUnended', WHERE WHAT IT READS IS OF BULK AT MOST 1048576: true; the input reads as it did. -/
def fnUnendedUptoRow : OpenClaim := { program := "ythmddkghlmgpaaagreatdoor", sum := "5ca3c11ceab0841247d71bd362c9b777ad3ae26bddd4396e6ac2e21e3f337bc8", func := "loop.example/pub-inflation/laws.FnUnended", spec := "fnUnended", inPlace := ["internal/reflectlite.ValueOf", "(internal/reflectlite.Value).Type", "(internal/reflectlite.Value).IsNil", "internal/reflectlite.TypeOf", "(internal/reflectlite.Value).Elem", "(internal/reflectlite.Value).Set"], unfollowed := true, recurses := true, named := ["io.EOF", "io.ErrUnexpectedEOF", "io.ErrShortBuffer", "loop.example/pub-inflation/pub/inflate.codeOrder", "errors.errorType"], apart := false, laid := [("errors.errorType", laid_errors_errorType), ("io.ErrShortBuffer", laid_io_ErrShortBuffer), ("io.EOF", laid_io_EOF), ("io.ErrUnexpectedEOF", laid_io_ErrUnexpectedEOF), ("loop.example/pub-inflation/pub/inflate.codeOrder", laid_loop_example_pub_inflation_pub_inflate_codeOrder)], narrowed := true }
def FnUnendedUptoSaid : Prop := fnUnendedUptoRow.holds Tryz.pinned (OpenSpec.upto fnUnendedSpec)

end Rows
end Go.Proofs.YthmddkghlmgpaaaGreatDoor
