/-
  NARROWER THAN 'FOR EVERY INPUT', by the rows' own cells (each row's printed sentence says how): FnAgainStored: laid · FnClosed: laid · FnCutEnd: laid · FnCuts: laid · FnLimit: laid · FnReads: laid · FnReadsGive: laid · FnTail: laid · FnTrailing: laid.
  DERIVED. THE GIVEN ROWS OF THIS SEAT. 9 by the template 'for every input the law returns true; each argument reads behind the call as it read before'; 0 by the template 'total and deterministic' (their statements: YthhfbogakdechaaGreatDoorTotals.lean).
  GIVEN WITH THE SEED: the statements are not yours to turn. If you find one false, say at which input.
  Laid BY PROGRAM, IN A SANDBOX (cutbox-rows.mjs): the forced cells as the released guide's own fill.sh prints them over the translation 869734e188f3957c… (all of the seat's roots in one cut). By AI agents, Wed Nov 11 2026. No macro, syntax, notation, axiom, sorry.
-/
import Derived.Test.YthhfbogakdechaaGreatDoorChecked
import GoSem.Claim
import GoSem.ClaimJoined
import GoSem.ClaimMapViews
import Derived.JoinedTies
import Derived.KernelRfl
namespace Go.Proofs.YthhfbogakdechaaGreatDoor
/- THE CELL 'sum', in the pinned program and in every row, IS THE sha256 OF THE DUMP (.gsa) THAT YthhfbogakdechaaGreatDoorProg.lean LOADS. Nothing in Lean hashes anything: it is a label: what it is worth is what the hold of that sum in a sandbox is worth. -/
noncomputable def Tryz.pinned : Pinned := { name := "ythhfbogakdechaagreatdoor", sum := "869734e188f3957c4a19956c03302367eca5cc60c199414b3eeda8c3fbc17739", checked := Tryz.checked }
namespace Rows
def none {H : Type} : Left H := { results := [], args := [] }

/- WHAT THE LISTED PACKAGE-LEVEL VARIABLES READ AS WHEN THE CALL BEGINS. Each datum BY PROGRAM (the guide's laid-datum.mjs) off the statement by which the dump's own 'gosem.cut.vars' lays the variable. In a bare row this is a premise. The card (YthhfbogakdechaaGreatDoorCards.lean) ties it to the program's text. -/
def laid_errors_errorType {H : Type} : DataW H := .iface "internal/reflectlite.rtype" (.agg [.ptr (.lit (.string [101, 114, 114, 111, 114]))])
def laid_io_ErrShortBuffer {H : Type} : DataW H := .iface "*errors.errorString" (.ptr (.agg [.lit (.string [115, 104, 111, 114, 116, 32, 98, 117, 102, 102, 101, 114])]))
def laid_io_EOF {H : Type} : DataW H := .iface "*errors.errorString" (.ptr (.agg [.lit (.string [69, 79, 70])]))
def laid_io_ErrUnexpectedEOF {H : Type} : DataW H := .iface "*errors.errorString" (.ptr (.agg [.lit (.string [117, 110, 101, 120, 112, 101, 99, 116, 101, 100, 32, 69, 79, 70])]))
def laid_loop_example_pub_inflation_pub_inflate_codeOrder {H : Type} : DataW H := .agg [.lit (.int .i64 16), .lit (.int .i64 17), .lit (.int .i64 18), .lit (.int .i64 0), .lit (.int .i64 8), .lit (.int .i64 7), .lit (.int .i64 9), .lit (.int .i64 6), .lit (.int .i64 10), .lit (.int .i64 5), .lit (.int .i64 11), .lit (.int .i64 4), .lit (.int .i64 12), .lit (.int .i64 3), .lit (.int .i64 13), .lit (.int .i64 2), .lit (.int .i64 14), .lit (.int .i64 1), .lit (.int .i64 15)]

/-- 'laws.FnAgainStored': WHATEVER THE INPUT: true; the input reads as it did. -/
def fnAgainStoredSpec : ChangeSpec := { name := "fnAgainStored", vars := ["loop.example/pub-inflation/pub/inflate.codeOrder"], fn := fun _ => fun
  | [d, g1] => { results := [.lit (.bool true)], args := [d], vars := [g1] }
  | _ => none }
def fnAgainStoredRow : OpenClaim := { program := "ythhfbogakdechaagreatdoor", sum := "869734e188f3957c4a19956c03302367eca5cc60c199414b3eeda8c3fbc17739", func := "loop.example/pub-inflation/laws.FnAgainStored", spec := "fnAgainStored", inPlace := ["internal/reflectlite.ValueOf", "(internal/reflectlite.Value).Type", "(internal/reflectlite.Value).IsNil", "internal/reflectlite.TypeOf", "(internal/reflectlite.Value).Elem", "(internal/reflectlite.Value).Set"], unfollowed := true, recurses := true, named := ["io.EOF", "io.ErrUnexpectedEOF", "io.ErrShortBuffer", "loop.example/pub-inflation/pub/inflate.codeOrder", "errors.errorType"], apart := false, laid := [("errors.errorType", laid_errors_errorType), ("io.ErrShortBuffer", laid_io_ErrShortBuffer), ("io.EOF", laid_io_EOF), ("io.ErrUnexpectedEOF", laid_io_ErrUnexpectedEOF), ("loop.example/pub-inflation/pub/inflate.codeOrder", laid_loop_example_pub_inflation_pub_inflate_codeOrder)] }
def FnAgainStoredSaid : Prop := fnAgainStoredRow.holds Tryz.pinned (OpenSpec.ofChange fnAgainStoredSpec)

/-- ITS FALSE NEIGHBOUR: 'it returns false'. Refute it at one input. -/
def fnAgainStoredWrong : ChangeSpec := { name := "fnAgainStored", vars := ["loop.example/pub-inflation/pub/inflate.codeOrder"], fn := fun _ => fun
  | [d, g1] => { results := [.lit (.bool false)], args := [d], vars := [g1] }
  | _ => none }
def FnAgainStoredWrongFalsely : Prop := fnAgainStoredRow.holds Tryz.pinned (OpenSpec.ofChange fnAgainStoredWrong)

/-- 'laws.FnClosed': WHATEVER THE INPUT: true; the input reads as it did. -/
def fnClosedSpec : ChangeSpec := { name := "fnClosed", vars := ["loop.example/pub-inflation/pub/inflate.codeOrder"], fn := fun _ => fun
  | [d, g1] => { results := [.lit (.bool true)], args := [d], vars := [g1] }
  | _ => none }
def fnClosedRow : OpenClaim := { program := "ythhfbogakdechaagreatdoor", sum := "869734e188f3957c4a19956c03302367eca5cc60c199414b3eeda8c3fbc17739", func := "loop.example/pub-inflation/laws.FnClosed", spec := "fnClosed", inPlace := ["internal/reflectlite.ValueOf", "(internal/reflectlite.Value).Type", "(internal/reflectlite.Value).IsNil", "internal/reflectlite.TypeOf", "(internal/reflectlite.Value).Elem", "(internal/reflectlite.Value).Set"], unfollowed := true, recurses := true, named := ["io.EOF", "io.ErrUnexpectedEOF", "io.ErrShortBuffer", "loop.example/pub-inflation/pub/inflate.codeOrder", "errors.errorType"], apart := false, laid := [("errors.errorType", laid_errors_errorType), ("io.ErrShortBuffer", laid_io_ErrShortBuffer), ("io.EOF", laid_io_EOF), ("io.ErrUnexpectedEOF", laid_io_ErrUnexpectedEOF), ("loop.example/pub-inflation/pub/inflate.codeOrder", laid_loop_example_pub_inflation_pub_inflate_codeOrder)] }
def FnClosedSaid : Prop := fnClosedRow.holds Tryz.pinned (OpenSpec.ofChange fnClosedSpec)

/-- ITS FALSE NEIGHBOUR: 'it returns false'. Refute it at one input. -/
def fnClosedWrong : ChangeSpec := { name := "fnClosed", vars := ["loop.example/pub-inflation/pub/inflate.codeOrder"], fn := fun _ => fun
  | [d, g1] => { results := [.lit (.bool false)], args := [d], vars := [g1] }
  | _ => none }
def FnClosedWrongFalsely : Prop := fnClosedRow.holds Tryz.pinned (OpenSpec.ofChange fnClosedWrong)

/-- 'laws.FnCutEnd': WHATEVER THE INPUT: true; the input reads as it did. -/
def fnCutEndSpec : ChangeSpec := { name := "fnCutEnd", vars := ["loop.example/pub-inflation/pub/inflate.codeOrder"], fn := fun _ => fun
  | [d, g1] => { results := [.lit (.bool true)], args := [d], vars := [g1] }
  | _ => none }
def fnCutEndRow : OpenClaim := { program := "ythhfbogakdechaagreatdoor", sum := "869734e188f3957c4a19956c03302367eca5cc60c199414b3eeda8c3fbc17739", func := "loop.example/pub-inflation/laws.FnCutEnd", spec := "fnCutEnd", inPlace := ["internal/reflectlite.ValueOf", "(internal/reflectlite.Value).Type", "(internal/reflectlite.Value).IsNil", "internal/reflectlite.TypeOf", "(internal/reflectlite.Value).Elem", "(internal/reflectlite.Value).Set"], unfollowed := true, recurses := true, named := ["io.EOF", "io.ErrUnexpectedEOF", "io.ErrShortBuffer", "loop.example/pub-inflation/pub/inflate.codeOrder", "errors.errorType"], apart := false, laid := [("errors.errorType", laid_errors_errorType), ("io.ErrShortBuffer", laid_io_ErrShortBuffer), ("io.EOF", laid_io_EOF), ("io.ErrUnexpectedEOF", laid_io_ErrUnexpectedEOF), ("loop.example/pub-inflation/pub/inflate.codeOrder", laid_loop_example_pub_inflation_pub_inflate_codeOrder)] }
def FnCutEndSaid : Prop := fnCutEndRow.holds Tryz.pinned (OpenSpec.ofChange fnCutEndSpec)

/-- ITS FALSE NEIGHBOUR: 'it returns false'. Refute it at one input. -/
def fnCutEndWrong : ChangeSpec := { name := "fnCutEnd", vars := ["loop.example/pub-inflation/pub/inflate.codeOrder"], fn := fun _ => fun
  | [d, g1] => { results := [.lit (.bool false)], args := [d], vars := [g1] }
  | _ => none }
def FnCutEndWrongFalsely : Prop := fnCutEndRow.holds Tryz.pinned (OpenSpec.ofChange fnCutEndWrong)

/-- 'laws.FnCuts': WHATEVER THE INPUT: true; the input reads as it did. -/
def fnCutsSpec : ChangeSpec := { name := "fnCuts", vars := ["loop.example/pub-inflation/pub/inflate.codeOrder"], fn := fun _ => fun
  | [d, g1] => { results := [.lit (.bool true)], args := [d], vars := [g1] }
  | _ => none }
def fnCutsRow : OpenClaim := { program := "ythhfbogakdechaagreatdoor", sum := "869734e188f3957c4a19956c03302367eca5cc60c199414b3eeda8c3fbc17739", func := "loop.example/pub-inflation/laws.FnCuts", spec := "fnCuts", inPlace := ["internal/reflectlite.ValueOf", "(internal/reflectlite.Value).Type", "(internal/reflectlite.Value).IsNil", "internal/reflectlite.TypeOf", "(internal/reflectlite.Value).Elem", "(internal/reflectlite.Value).Set"], unfollowed := true, recurses := true, named := ["io.EOF", "io.ErrUnexpectedEOF", "io.ErrShortBuffer", "loop.example/pub-inflation/pub/inflate.codeOrder", "errors.errorType"], apart := false, laid := [("errors.errorType", laid_errors_errorType), ("io.ErrShortBuffer", laid_io_ErrShortBuffer), ("io.EOF", laid_io_EOF), ("io.ErrUnexpectedEOF", laid_io_ErrUnexpectedEOF), ("loop.example/pub-inflation/pub/inflate.codeOrder", laid_loop_example_pub_inflation_pub_inflate_codeOrder)] }
def FnCutsSaid : Prop := fnCutsRow.holds Tryz.pinned (OpenSpec.ofChange fnCutsSpec)

/-- ITS FALSE NEIGHBOUR: 'it returns false'. Refute it at one input. -/
def fnCutsWrong : ChangeSpec := { name := "fnCuts", vars := ["loop.example/pub-inflation/pub/inflate.codeOrder"], fn := fun _ => fun
  | [d, g1] => { results := [.lit (.bool false)], args := [d], vars := [g1] }
  | _ => none }
def FnCutsWrongFalsely : Prop := fnCutsRow.holds Tryz.pinned (OpenSpec.ofChange fnCutsWrong)

/-- 'laws.FnLimit': WHATEVER THE INPUT: true; the input reads as it did. -/
def fnLimitSpec : ChangeSpec := { name := "fnLimit", vars := ["loop.example/pub-inflation/pub/inflate.codeOrder"], fn := fun _ => fun
  | [d1, d2, g1] => { results := [.lit (.bool true)], args := [d1, d2], vars := [g1] }
  | _ => none }
def fnLimitRow : OpenClaim := { program := "ythhfbogakdechaagreatdoor", sum := "869734e188f3957c4a19956c03302367eca5cc60c199414b3eeda8c3fbc17739", func := "loop.example/pub-inflation/laws.FnLimit", spec := "fnLimit", inPlace := ["internal/reflectlite.ValueOf", "(internal/reflectlite.Value).Type", "(internal/reflectlite.Value).IsNil", "internal/reflectlite.TypeOf", "(internal/reflectlite.Value).Elem", "(internal/reflectlite.Value).Set"], unfollowed := true, recurses := true, named := ["io.EOF", "io.ErrUnexpectedEOF", "io.ErrShortBuffer", "loop.example/pub-inflation/pub/inflate.codeOrder", "errors.errorType"], apart := false, laid := [("errors.errorType", laid_errors_errorType), ("io.ErrShortBuffer", laid_io_ErrShortBuffer), ("io.EOF", laid_io_EOF), ("io.ErrUnexpectedEOF", laid_io_ErrUnexpectedEOF), ("loop.example/pub-inflation/pub/inflate.codeOrder", laid_loop_example_pub_inflation_pub_inflate_codeOrder)] }
def FnLimitSaid : Prop := fnLimitRow.holds Tryz.pinned (OpenSpec.ofChange fnLimitSpec)

/-- ITS FALSE NEIGHBOUR: 'it returns false'. Refute it at one input. -/
def fnLimitWrong : ChangeSpec := { name := "fnLimit", vars := ["loop.example/pub-inflation/pub/inflate.codeOrder"], fn := fun _ => fun
  | [d1, d2, g1] => { results := [.lit (.bool false)], args := [d1, d2], vars := [g1] }
  | _ => none }
def FnLimitWrongFalsely : Prop := fnLimitRow.holds Tryz.pinned (OpenSpec.ofChange fnLimitWrong)

/-- 'laws.FnReads': WHATEVER THE INPUT: true; the input reads as it did. -/
def fnReadsSpec : ChangeSpec := { name := "fnReads", vars := ["loop.example/pub-inflation/pub/inflate.codeOrder"], fn := fun _ => fun
  | [d1, d2, g1] => { results := [.lit (.bool true)], args := [d1, d2], vars := [g1] }
  | _ => none }
def fnReadsRow : OpenClaim := { program := "ythhfbogakdechaagreatdoor", sum := "869734e188f3957c4a19956c03302367eca5cc60c199414b3eeda8c3fbc17739", func := "loop.example/pub-inflation/laws.FnReads", spec := "fnReads", inPlace := ["internal/reflectlite.ValueOf", "(internal/reflectlite.Value).Type", "(internal/reflectlite.Value).IsNil", "internal/reflectlite.TypeOf", "(internal/reflectlite.Value).Elem", "(internal/reflectlite.Value).Set"], unfollowed := true, recurses := true, named := ["io.EOF", "io.ErrUnexpectedEOF", "io.ErrShortBuffer", "loop.example/pub-inflation/pub/inflate.codeOrder", "errors.errorType"], apart := false, laid := [("errors.errorType", laid_errors_errorType), ("io.ErrShortBuffer", laid_io_ErrShortBuffer), ("io.EOF", laid_io_EOF), ("io.ErrUnexpectedEOF", laid_io_ErrUnexpectedEOF), ("loop.example/pub-inflation/pub/inflate.codeOrder", laid_loop_example_pub_inflation_pub_inflate_codeOrder)] }
def FnReadsSaid : Prop := fnReadsRow.holds Tryz.pinned (OpenSpec.ofChange fnReadsSpec)

/-- ITS FALSE NEIGHBOUR: 'it returns false'. Refute it at one input. -/
def fnReadsWrong : ChangeSpec := { name := "fnReads", vars := ["loop.example/pub-inflation/pub/inflate.codeOrder"], fn := fun _ => fun
  | [d1, d2, g1] => { results := [.lit (.bool false)], args := [d1, d2], vars := [g1] }
  | _ => none }
def FnReadsWrongFalsely : Prop := fnReadsRow.holds Tryz.pinned (OpenSpec.ofChange fnReadsWrong)

/-- 'laws.FnReadsGive': WHATEVER THE INPUT: true; the input reads as it did. -/
def fnReadsGiveSpec : ChangeSpec := { name := "fnReadsGive", vars := ["loop.example/pub-inflation/pub/inflate.codeOrder"], fn := fun _ => fun
  | [d1, d2, g1] => { results := [.lit (.bool true)], args := [d1, d2], vars := [g1] }
  | _ => none }
def fnReadsGiveRow : OpenClaim := { program := "ythhfbogakdechaagreatdoor", sum := "869734e188f3957c4a19956c03302367eca5cc60c199414b3eeda8c3fbc17739", func := "loop.example/pub-inflation/laws.FnReadsGive", spec := "fnReadsGive", inPlace := ["internal/reflectlite.ValueOf", "(internal/reflectlite.Value).Type", "(internal/reflectlite.Value).IsNil", "internal/reflectlite.TypeOf", "(internal/reflectlite.Value).Elem", "(internal/reflectlite.Value).Set"], unfollowed := true, recurses := true, named := ["io.EOF", "io.ErrUnexpectedEOF", "io.ErrShortBuffer", "loop.example/pub-inflation/pub/inflate.codeOrder", "errors.errorType"], apart := false, laid := [("errors.errorType", laid_errors_errorType), ("io.ErrShortBuffer", laid_io_ErrShortBuffer), ("io.EOF", laid_io_EOF), ("io.ErrUnexpectedEOF", laid_io_ErrUnexpectedEOF), ("loop.example/pub-inflation/pub/inflate.codeOrder", laid_loop_example_pub_inflation_pub_inflate_codeOrder)] }
def FnReadsGiveSaid : Prop := fnReadsGiveRow.holds Tryz.pinned (OpenSpec.ofChange fnReadsGiveSpec)

/-- ITS FALSE NEIGHBOUR: 'it returns false'. Refute it at one input. -/
def fnReadsGiveWrong : ChangeSpec := { name := "fnReadsGive", vars := ["loop.example/pub-inflation/pub/inflate.codeOrder"], fn := fun _ => fun
  | [d1, d2, g1] => { results := [.lit (.bool false)], args := [d1, d2], vars := [g1] }
  | _ => none }
def FnReadsGiveWrongFalsely : Prop := fnReadsGiveRow.holds Tryz.pinned (OpenSpec.ofChange fnReadsGiveWrong)

/-- 'laws.FnTail': WHATEVER THE INPUT: true; the input reads as it did. -/
def fnTailSpec : ChangeSpec := { name := "fnTail", vars := ["loop.example/pub-inflation/pub/inflate.codeOrder"], fn := fun _ => fun
  | [d1, d2, g1] => { results := [.lit (.bool true)], args := [d1, d2], vars := [g1] }
  | _ => none }
def fnTailRow : OpenClaim := { program := "ythhfbogakdechaagreatdoor", sum := "869734e188f3957c4a19956c03302367eca5cc60c199414b3eeda8c3fbc17739", func := "loop.example/pub-inflation/laws.FnTail", spec := "fnTail", inPlace := ["internal/reflectlite.ValueOf", "(internal/reflectlite.Value).Type", "(internal/reflectlite.Value).IsNil", "internal/reflectlite.TypeOf", "(internal/reflectlite.Value).Elem", "(internal/reflectlite.Value).Set"], unfollowed := true, recurses := true, named := ["io.EOF", "io.ErrUnexpectedEOF", "io.ErrShortBuffer", "loop.example/pub-inflation/pub/inflate.codeOrder", "errors.errorType"], apart := false, laid := [("errors.errorType", laid_errors_errorType), ("io.ErrShortBuffer", laid_io_ErrShortBuffer), ("io.EOF", laid_io_EOF), ("io.ErrUnexpectedEOF", laid_io_ErrUnexpectedEOF), ("loop.example/pub-inflation/pub/inflate.codeOrder", laid_loop_example_pub_inflation_pub_inflate_codeOrder)] }
def FnTailSaid : Prop := fnTailRow.holds Tryz.pinned (OpenSpec.ofChange fnTailSpec)

/-- ITS FALSE NEIGHBOUR: 'it returns false'. Refute it at one input. -/
def fnTailWrong : ChangeSpec := { name := "fnTail", vars := ["loop.example/pub-inflation/pub/inflate.codeOrder"], fn := fun _ => fun
  | [d1, d2, g1] => { results := [.lit (.bool false)], args := [d1, d2], vars := [g1] }
  | _ => none }
def FnTailWrongFalsely : Prop := fnTailRow.holds Tryz.pinned (OpenSpec.ofChange fnTailWrong)

/-- 'laws.FnTrailing': WHATEVER THE INPUT: true; the input reads as it did. -/
def fnTrailingSpec : ChangeSpec := { name := "fnTrailing", vars := ["loop.example/pub-inflation/pub/inflate.codeOrder"], fn := fun _ => fun
  | [d1, d2, g1] => { results := [.lit (.bool true)], args := [d1, d2], vars := [g1] }
  | _ => none }
def fnTrailingRow : OpenClaim := { program := "ythhfbogakdechaagreatdoor", sum := "869734e188f3957c4a19956c03302367eca5cc60c199414b3eeda8c3fbc17739", func := "loop.example/pub-inflation/laws.FnTrailing", spec := "fnTrailing", inPlace := ["internal/reflectlite.ValueOf", "(internal/reflectlite.Value).Type", "(internal/reflectlite.Value).IsNil", "internal/reflectlite.TypeOf", "(internal/reflectlite.Value).Elem", "(internal/reflectlite.Value).Set"], unfollowed := true, recurses := true, named := ["io.EOF", "io.ErrUnexpectedEOF", "io.ErrShortBuffer", "loop.example/pub-inflation/pub/inflate.codeOrder", "errors.errorType"], apart := false, laid := [("errors.errorType", laid_errors_errorType), ("io.ErrShortBuffer", laid_io_ErrShortBuffer), ("io.EOF", laid_io_EOF), ("io.ErrUnexpectedEOF", laid_io_ErrUnexpectedEOF), ("loop.example/pub-inflation/pub/inflate.codeOrder", laid_loop_example_pub_inflation_pub_inflate_codeOrder)] }
def FnTrailingSaid : Prop := fnTrailingRow.holds Tryz.pinned (OpenSpec.ofChange fnTrailingSpec)

/-- ITS FALSE NEIGHBOUR: 'it returns false'. Refute it at one input. -/
def fnTrailingWrong : ChangeSpec := { name := "fnTrailing", vars := ["loop.example/pub-inflation/pub/inflate.codeOrder"], fn := fun _ => fun
  | [d1, d2, g1] => { results := [.lit (.bool false)], args := [d1, d2], vars := [g1] }
  | _ => none }
def FnTrailingWrongFalsely : Prop := fnTrailingRow.holds Tryz.pinned (OpenSpec.ofChange fnTrailingWrong)

/- THE SECOND FORM. 'bulk': how many values and letters a reading holds, each counted each time it is reached (what is shared counts as often as it is met; a slice's spare places count too). A statement '..UptoSaid' is the law's where the arguments, and the package variables that the reading takes, are together of bulk at most 1048576: NARROWER than '..Said'. Prove '..Said' where nothing that the law and all that it calls make is longer than what came in: it says more and counts as full. Else prove '..UptoSaid'. A law counts once. -/
mutual
def uptoBulk {H : Type} : DataW H → Nat
  | .lit (.string bytes) => bytes.length + 1
  | .lit _ => 1
  | .nil => 1
  | .ptr d => uptoBulk d + 1
  | .slice elems spare => uptoBulkAll elems + uptoBulkAll spare + 1
  | .agg parts => uptoBulkAll parts + 1
  | .iface _ d => uptoBulk d + 1
  | .map entries => uptoBulkEntries entries + 1
  | .held _ => 1
def uptoBulkAll {H : Type} : List (DataW H) → Nat
  | [] => 0
  | d :: r => uptoBulk d + uptoBulkAll r
def uptoBulkEntries {H : Type} : List (Lit × DataW H) → Nat
  | [] => 0
  | x :: r => uptoBulkEntry x + uptoBulkEntries r
def uptoBulkEntry {H : Type} : Lit × DataW H → Nat
  | (.string bytes, d) => bytes.length + uptoBulk d + 1
  | (_, d) => uptoBulk d + 1
 end
def uptoSmall : (H : Type) → List (DataW H) → Bool := fun _ ds => decide (uptoBulkAll ds ≤ 1048576)
def OpenSpec.upto (s : _root_.Go.ChangeSpec) : _root_.Go.OpenSpec := { _root_.Go.OpenSpec.ofChange s with cond := some uptoSmall }

/-- 'laws.FnAgainStored', WHERE WHAT IT READS IS OF BULK AT MOST 1048576: true; the input reads as it did. -/
def fnAgainStoredUptoRow : OpenClaim := { program := "ythhfbogakdechaagreatdoor", sum := "869734e188f3957c4a19956c03302367eca5cc60c199414b3eeda8c3fbc17739", func := "loop.example/pub-inflation/laws.FnAgainStored", spec := "fnAgainStored", inPlace := ["internal/reflectlite.ValueOf", "(internal/reflectlite.Value).Type", "(internal/reflectlite.Value).IsNil", "internal/reflectlite.TypeOf", "(internal/reflectlite.Value).Elem", "(internal/reflectlite.Value).Set"], unfollowed := true, recurses := true, named := ["io.EOF", "io.ErrUnexpectedEOF", "io.ErrShortBuffer", "loop.example/pub-inflation/pub/inflate.codeOrder", "errors.errorType"], apart := false, laid := [("errors.errorType", laid_errors_errorType), ("io.ErrShortBuffer", laid_io_ErrShortBuffer), ("io.EOF", laid_io_EOF), ("io.ErrUnexpectedEOF", laid_io_ErrUnexpectedEOF), ("loop.example/pub-inflation/pub/inflate.codeOrder", laid_loop_example_pub_inflation_pub_inflate_codeOrder)], narrowed := true }
def FnAgainStoredUptoSaid : Prop := fnAgainStoredUptoRow.holds Tryz.pinned (OpenSpec.upto fnAgainStoredSpec)

/-- 'laws.FnClosed', WHERE WHAT IT READS IS OF BULK AT MOST 1048576: true; the input reads as it did. -/
def fnClosedUptoRow : OpenClaim := { program := "ythhfbogakdechaagreatdoor", sum := "869734e188f3957c4a19956c03302367eca5cc60c199414b3eeda8c3fbc17739", func := "loop.example/pub-inflation/laws.FnClosed", spec := "fnClosed", inPlace := ["internal/reflectlite.ValueOf", "(internal/reflectlite.Value).Type", "(internal/reflectlite.Value).IsNil", "internal/reflectlite.TypeOf", "(internal/reflectlite.Value).Elem", "(internal/reflectlite.Value).Set"], unfollowed := true, recurses := true, named := ["io.EOF", "io.ErrUnexpectedEOF", "io.ErrShortBuffer", "loop.example/pub-inflation/pub/inflate.codeOrder", "errors.errorType"], apart := false, laid := [("errors.errorType", laid_errors_errorType), ("io.ErrShortBuffer", laid_io_ErrShortBuffer), ("io.EOF", laid_io_EOF), ("io.ErrUnexpectedEOF", laid_io_ErrUnexpectedEOF), ("loop.example/pub-inflation/pub/inflate.codeOrder", laid_loop_example_pub_inflation_pub_inflate_codeOrder)], narrowed := true }
def FnClosedUptoSaid : Prop := fnClosedUptoRow.holds Tryz.pinned (OpenSpec.upto fnClosedSpec)

/-- 'laws.FnCutEnd', WHERE WHAT IT READS IS OF BULK AT MOST 1048576: true; the input reads as it did. -/
def fnCutEndUptoRow : OpenClaim := { program := "ythhfbogakdechaagreatdoor", sum := "869734e188f3957c4a19956c03302367eca5cc60c199414b3eeda8c3fbc17739", func := "loop.example/pub-inflation/laws.FnCutEnd", spec := "fnCutEnd", inPlace := ["internal/reflectlite.ValueOf", "(internal/reflectlite.Value).Type", "(internal/reflectlite.Value).IsNil", "internal/reflectlite.TypeOf", "(internal/reflectlite.Value).Elem", "(internal/reflectlite.Value).Set"], unfollowed := true, recurses := true, named := ["io.EOF", "io.ErrUnexpectedEOF", "io.ErrShortBuffer", "loop.example/pub-inflation/pub/inflate.codeOrder", "errors.errorType"], apart := false, laid := [("errors.errorType", laid_errors_errorType), ("io.ErrShortBuffer", laid_io_ErrShortBuffer), ("io.EOF", laid_io_EOF), ("io.ErrUnexpectedEOF", laid_io_ErrUnexpectedEOF), ("loop.example/pub-inflation/pub/inflate.codeOrder", laid_loop_example_pub_inflation_pub_inflate_codeOrder)], narrowed := true }
def FnCutEndUptoSaid : Prop := fnCutEndUptoRow.holds Tryz.pinned (OpenSpec.upto fnCutEndSpec)

/-- 'laws.FnCuts', WHERE WHAT IT READS IS OF BULK AT MOST 1048576: true; the input reads as it did. -/
def fnCutsUptoRow : OpenClaim := { program := "ythhfbogakdechaagreatdoor", sum := "869734e188f3957c4a19956c03302367eca5cc60c199414b3eeda8c3fbc17739", func := "loop.example/pub-inflation/laws.FnCuts", spec := "fnCuts", inPlace := ["internal/reflectlite.ValueOf", "(internal/reflectlite.Value).Type", "(internal/reflectlite.Value).IsNil", "internal/reflectlite.TypeOf", "(internal/reflectlite.Value).Elem", "(internal/reflectlite.Value).Set"], unfollowed := true, recurses := true, named := ["io.EOF", "io.ErrUnexpectedEOF", "io.ErrShortBuffer", "loop.example/pub-inflation/pub/inflate.codeOrder", "errors.errorType"], apart := false, laid := [("errors.errorType", laid_errors_errorType), ("io.ErrShortBuffer", laid_io_ErrShortBuffer), ("io.EOF", laid_io_EOF), ("io.ErrUnexpectedEOF", laid_io_ErrUnexpectedEOF), ("loop.example/pub-inflation/pub/inflate.codeOrder", laid_loop_example_pub_inflation_pub_inflate_codeOrder)], narrowed := true }
def FnCutsUptoSaid : Prop := fnCutsUptoRow.holds Tryz.pinned (OpenSpec.upto fnCutsSpec)

/-- 'laws.FnLimit', WHERE WHAT IT READS IS OF BULK AT MOST 1048576: true; the input reads as it did. -/
def fnLimitUptoRow : OpenClaim := { program := "ythhfbogakdechaagreatdoor", sum := "869734e188f3957c4a19956c03302367eca5cc60c199414b3eeda8c3fbc17739", func := "loop.example/pub-inflation/laws.FnLimit", spec := "fnLimit", inPlace := ["internal/reflectlite.ValueOf", "(internal/reflectlite.Value).Type", "(internal/reflectlite.Value).IsNil", "internal/reflectlite.TypeOf", "(internal/reflectlite.Value).Elem", "(internal/reflectlite.Value).Set"], unfollowed := true, recurses := true, named := ["io.EOF", "io.ErrUnexpectedEOF", "io.ErrShortBuffer", "loop.example/pub-inflation/pub/inflate.codeOrder", "errors.errorType"], apart := false, laid := [("errors.errorType", laid_errors_errorType), ("io.ErrShortBuffer", laid_io_ErrShortBuffer), ("io.EOF", laid_io_EOF), ("io.ErrUnexpectedEOF", laid_io_ErrUnexpectedEOF), ("loop.example/pub-inflation/pub/inflate.codeOrder", laid_loop_example_pub_inflation_pub_inflate_codeOrder)], narrowed := true }
def FnLimitUptoSaid : Prop := fnLimitUptoRow.holds Tryz.pinned (OpenSpec.upto fnLimitSpec)

/-- 'laws.FnReads', WHERE WHAT IT READS IS OF BULK AT MOST 1048576: true; the input reads as it did. -/
def fnReadsUptoRow : OpenClaim := { program := "ythhfbogakdechaagreatdoor", sum := "869734e188f3957c4a19956c03302367eca5cc60c199414b3eeda8c3fbc17739", func := "loop.example/pub-inflation/laws.FnReads", spec := "fnReads", inPlace := ["internal/reflectlite.ValueOf", "(internal/reflectlite.Value).Type", "(internal/reflectlite.Value).IsNil", "internal/reflectlite.TypeOf", "(internal/reflectlite.Value).Elem", "(internal/reflectlite.Value).Set"], unfollowed := true, recurses := true, named := ["io.EOF", "io.ErrUnexpectedEOF", "io.ErrShortBuffer", "loop.example/pub-inflation/pub/inflate.codeOrder", "errors.errorType"], apart := false, laid := [("errors.errorType", laid_errors_errorType), ("io.ErrShortBuffer", laid_io_ErrShortBuffer), ("io.EOF", laid_io_EOF), ("io.ErrUnexpectedEOF", laid_io_ErrUnexpectedEOF), ("loop.example/pub-inflation/pub/inflate.codeOrder", laid_loop_example_pub_inflation_pub_inflate_codeOrder)], narrowed := true }
def FnReadsUptoSaid : Prop := fnReadsUptoRow.holds Tryz.pinned (OpenSpec.upto fnReadsSpec)

/-- 'laws.FnReadsGive', WHERE WHAT IT READS IS OF BULK AT MOST 1048576: true; the input reads as it did. -/
def fnReadsGiveUptoRow : OpenClaim := { program := "ythhfbogakdechaagreatdoor", sum := "869734e188f3957c4a19956c03302367eca5cc60c199414b3eeda8c3fbc17739", func := "loop.example/pub-inflation/laws.FnReadsGive", spec := "fnReadsGive", inPlace := ["internal/reflectlite.ValueOf", "(internal/reflectlite.Value).Type", "(internal/reflectlite.Value).IsNil", "internal/reflectlite.TypeOf", "(internal/reflectlite.Value).Elem", "(internal/reflectlite.Value).Set"], unfollowed := true, recurses := true, named := ["io.EOF", "io.ErrUnexpectedEOF", "io.ErrShortBuffer", "loop.example/pub-inflation/pub/inflate.codeOrder", "errors.errorType"], apart := false, laid := [("errors.errorType", laid_errors_errorType), ("io.ErrShortBuffer", laid_io_ErrShortBuffer), ("io.EOF", laid_io_EOF), ("io.ErrUnexpectedEOF", laid_io_ErrUnexpectedEOF), ("loop.example/pub-inflation/pub/inflate.codeOrder", laid_loop_example_pub_inflation_pub_inflate_codeOrder)], narrowed := true }
def FnReadsGiveUptoSaid : Prop := fnReadsGiveUptoRow.holds Tryz.pinned (OpenSpec.upto fnReadsGiveSpec)

/-- 'laws.FnTail', WHERE WHAT IT READS IS OF BULK AT MOST 1048576: true; the input reads as it did. -/
def fnTailUptoRow : OpenClaim := { program := "ythhfbogakdechaagreatdoor", sum := "869734e188f3957c4a19956c03302367eca5cc60c199414b3eeda8c3fbc17739", func := "loop.example/pub-inflation/laws.FnTail", spec := "fnTail", inPlace := ["internal/reflectlite.ValueOf", "(internal/reflectlite.Value).Type", "(internal/reflectlite.Value).IsNil", "internal/reflectlite.TypeOf", "(internal/reflectlite.Value).Elem", "(internal/reflectlite.Value).Set"], unfollowed := true, recurses := true, named := ["io.EOF", "io.ErrUnexpectedEOF", "io.ErrShortBuffer", "loop.example/pub-inflation/pub/inflate.codeOrder", "errors.errorType"], apart := false, laid := [("errors.errorType", laid_errors_errorType), ("io.ErrShortBuffer", laid_io_ErrShortBuffer), ("io.EOF", laid_io_EOF), ("io.ErrUnexpectedEOF", laid_io_ErrUnexpectedEOF), ("loop.example/pub-inflation/pub/inflate.codeOrder", laid_loop_example_pub_inflation_pub_inflate_codeOrder)], narrowed := true }
def FnTailUptoSaid : Prop := fnTailUptoRow.holds Tryz.pinned (OpenSpec.upto fnTailSpec)

/-- 'laws.FnTrailing', WHERE WHAT IT READS IS OF BULK AT MOST 1048576: true; the input reads as it did. -/
def fnTrailingUptoRow : OpenClaim := { program := "ythhfbogakdechaagreatdoor", sum := "869734e188f3957c4a19956c03302367eca5cc60c199414b3eeda8c3fbc17739", func := "loop.example/pub-inflation/laws.FnTrailing", spec := "fnTrailing", inPlace := ["internal/reflectlite.ValueOf", "(internal/reflectlite.Value).Type", "(internal/reflectlite.Value).IsNil", "internal/reflectlite.TypeOf", "(internal/reflectlite.Value).Elem", "(internal/reflectlite.Value).Set"], unfollowed := true, recurses := true, named := ["io.EOF", "io.ErrUnexpectedEOF", "io.ErrShortBuffer", "loop.example/pub-inflation/pub/inflate.codeOrder", "errors.errorType"], apart := false, laid := [("errors.errorType", laid_errors_errorType), ("io.ErrShortBuffer", laid_io_ErrShortBuffer), ("io.EOF", laid_io_EOF), ("io.ErrUnexpectedEOF", laid_io_ErrUnexpectedEOF), ("loop.example/pub-inflation/pub/inflate.codeOrder", laid_loop_example_pub_inflation_pub_inflate_codeOrder)], narrowed := true }
def FnTrailingUptoSaid : Prop := fnTrailingUptoRow.holds Tryz.pinned (OpenSpec.upto fnTrailingSpec)

end Rows
end Go.Proofs.YthhfbogakdechaaGreatDoor
