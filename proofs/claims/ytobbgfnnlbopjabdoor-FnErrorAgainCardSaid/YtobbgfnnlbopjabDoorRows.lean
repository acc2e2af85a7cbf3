/-
  NARROWER THAN 'FOR EVERY INPUT', by the rows' own cells (each row's printed sentence says how): FnExactDict: laid · FnExactDictWrong: laid · FnFew: laid · FnExactLeft: laid · FnNothing: laid · FnErrorAgain: laid.
  DERIVED. THE GIVEN ROWS OF THIS SEAT. 6 by the template 'for every input the law returns true; each argument reads behind the call as it read before'; 0 by the template 'total and deterministic' (their statements: YtobbgfnnlbopjabDoorTotals.lean).
  GIVEN WITH THE SEED: the statements are not yours to turn. If you find one false, say at which input.
  Laid BY PROGRAM, IN A SANDBOX (cutbox-rows.mjs): the forced cells as the released guide's own fill.sh prints them over the translation ae60c59310bce247… (all of the seat's roots in one cut). By AI agents, Wed Nov 11 2026. No macro, syntax, notation, axiom, sorry.
-/
import Derived.Test.YtobbgfnnlbopjabDoorChecked
import GoSem.Claim
import GoSem.ClaimJoined
import GoSem.ClaimMapViews
import Derived.JoinedTies
import Derived.KernelRfl
namespace Go.Proofs.YtobbgfnnlbopjabDoor
/- THE CELL 'sum', in the pinned program and in every row, IS THE sha256 OF THE DUMP (.gsa) THAT YtobbgfnnlbopjabDoorProg.lean LOADS. Nothing in Lean hashes anything: it is a label: what it is worth is what the hold of that sum in a sandbox is worth. -/
noncomputable def Tryd.pinned : Pinned := { name := "ytobbgfnnlbopjabdoor", sum := "ae60c59310bce247b318140ed8cb988600a24c9155e2209a3250f66baff89ecb", checked := Tryd.checked }
namespace Rows
def none {H : Type} : Left H := { results := [], args := [] }

/- WHAT THE LISTED PACKAGE-LEVEL VARIABLES READ AS WHEN THE CALL BEGINS. Each datum BY PROGRAM (the guide's laid-datum.mjs) off the statement by which the dump's own 'gosem.cut.vars' lays the variable. In a bare row this is a premise. The card (YtobbgfnnlbopjabDoorCards.lean) ties it to the program's text. -/
def laid_errors_errorType {H : Type} : DataW H := .iface "internal/reflectlite.rtype" (.agg [.ptr (.lit (.string [101, 114, 114, 111, 114]))])
def laid_io_ErrShortBuffer {H : Type} : DataW H := .iface "*errors.errorString" (.ptr (.agg [.lit (.string [115, 104, 111, 114, 116, 32, 98, 117, 102, 102, 101, 114])]))
def laid_io_EOF {H : Type} : DataW H := .iface "*errors.errorString" (.ptr (.agg [.lit (.string [69, 79, 70])]))
def laid_io_ErrUnexpectedEOF {H : Type} : DataW H := .iface "*errors.errorString" (.ptr (.agg [.lit (.string [117, 110, 101, 120, 112, 101, 99, 116, 101, 100, 32, 69, 79, 70])]))
def laid_loop_example_pub_inflation_pub_inflate_codeOrder {H : Type} : DataW H := .agg [.lit (.int .i64 16), .lit (.int .i64 17), .lit (.int .i64 18), .lit (.int .i64 0), .lit (.int .i64 8), .lit (.int .i64 7), .lit (.int .i64 9), .lit (.int .i64 6), .lit (.int .i64 10), .lit (.int .i64 5), .lit (.int .i64 11), .lit (.int .i64 4), .lit (.int .i64 12), .lit (.int .i64 3), .lit (.int .i64 13), .lit (.int .i64 2), .lit (.int .i64 14), .lit (.int .i64 1), .lit (.int .i64 15)]

/-- 'laws.FnExactDict': WHATEVER THE INPUT: true; the input reads as it did. -/
def fnExactDictSpec : ChangeSpec := { name := "fnExactDict", vars := ["loop.example/pub-inflation/pub/inflate.codeOrder"], fn := fun _ => fun
  | [d1, d2, g1] => { results := [.lit (.bool true)], args := [d1, d2], vars := [g1] }
  | _ => none }
def fnExactDictRow : OpenClaim := { program := "ytobbgfnnlbopjabdoor", sum := "ae60c59310bce247b318140ed8cb988600a24c9155e2209a3250f66baff89ecb", func := "loop.example/pub-inflation/laws.FnExactDict", spec := "fnExactDict", inPlace := ["internal/reflectlite.ValueOf", "(internal/reflectlite.Value).Type", "(internal/reflectlite.Value).IsNil", "internal/reflectlite.TypeOf", "(internal/reflectlite.Value).Elem", "(internal/reflectlite.Value).Set"], unfollowed := true, recurses := true, named := ["io.EOF", "io.ErrUnexpectedEOF", "io.ErrShortBuffer", "loop.example/pub-inflation/pub/inflate.codeOrder", "errors.errorType"], apart := false, laid := [("errors.errorType", laid_errors_errorType), ("io.ErrShortBuffer", laid_io_ErrShortBuffer), ("io.EOF", laid_io_EOF), ("io.ErrUnexpectedEOF", laid_io_ErrUnexpectedEOF), ("loop.example/pub-inflation/pub/inflate.codeOrder", laid_loop_example_pub_inflation_pub_inflate_codeOrder)] }
def FnExactDictSaid : Prop := fnExactDictRow.holds Tryd.pinned (OpenSpec.ofChange fnExactDictSpec)

/-- ITS FALSE NEIGHBOUR: 'it returns false'. Refute it at one input. -/
def fnExactDictWrong : ChangeSpec := { name := "fnExactDict", vars := ["loop.example/pub-inflation/pub/inflate.codeOrder"], fn := fun _ => fun
  | [d1, d2, g1] => { results := [.lit (.bool false)], args := [d1, d2], vars := [g1] }
  | _ => none }
def FnExactDictWrongFalsely : Prop := fnExactDictRow.holds Tryd.pinned (OpenSpec.ofChange fnExactDictWrong)

/-- 'laws.FnExactDictWrong': WHATEVER THE INPUT: true; the input reads as it did. -/
def fnExactDictWrongSpec : ChangeSpec := { name := "fnExactDictWrong", vars := ["loop.example/pub-inflation/pub/inflate.codeOrder"], fn := fun _ => fun
  | [d1, d2, g1] => { results := [.lit (.bool true)], args := [d1, d2], vars := [g1] }
  | _ => none }
def fnExactDictWrongRow : OpenClaim := { program := "ytobbgfnnlbopjabdoor", sum := "ae60c59310bce247b318140ed8cb988600a24c9155e2209a3250f66baff89ecb", func := "loop.example/pub-inflation/laws.FnExactDictWrong", spec := "fnExactDictWrong", inPlace := ["internal/reflectlite.ValueOf", "(internal/reflectlite.Value).Type", "(internal/reflectlite.Value).IsNil", "internal/reflectlite.TypeOf", "(internal/reflectlite.Value).Elem", "(internal/reflectlite.Value).Set"], unfollowed := true, recurses := true, named := ["io.EOF", "io.ErrUnexpectedEOF", "io.ErrShortBuffer", "loop.example/pub-inflation/pub/inflate.codeOrder", "errors.errorType"], apart := false, laid := [("errors.errorType", laid_errors_errorType), ("io.ErrShortBuffer", laid_io_ErrShortBuffer), ("io.EOF", laid_io_EOF), ("io.ErrUnexpectedEOF", laid_io_ErrUnexpectedEOF), ("loop.example/pub-inflation/pub/inflate.codeOrder", laid_loop_example_pub_inflation_pub_inflate_codeOrder)] }
def FnExactDictWrongSaid : Prop := fnExactDictWrongRow.holds Tryd.pinned (OpenSpec.ofChange fnExactDictWrongSpec)

/-- ITS FALSE NEIGHBOUR: 'it returns false'. Refute it at one input. -/
def fnExactDictWrongWrong : ChangeSpec := { name := "fnExactDictWrong", vars := ["loop.example/pub-inflation/pub/inflate.codeOrder"], fn := fun _ => fun
  | [d1, d2, g1] => { results := [.lit (.bool false)], args := [d1, d2], vars := [g1] }
  | _ => none }
def FnExactDictWrongWrongFalsely : Prop := fnExactDictWrongRow.holds Tryd.pinned (OpenSpec.ofChange fnExactDictWrongWrong)

/-- 'laws.FnFew': WHATEVER THE INPUT: true; the input reads as it did. -/
def fnFewSpec : ChangeSpec := { name := "fnFew", vars := ["loop.example/pub-inflation/pub/inflate.codeOrder"], fn := fun _ => fun
  | [d, g1] => { results := [.lit (.bool true)], args := [d], vars := [g1] }
  | _ => none }
def fnFewRow : OpenClaim := { program := "ytobbgfnnlbopjabdoor", sum := "ae60c59310bce247b318140ed8cb988600a24c9155e2209a3250f66baff89ecb", func := "loop.example/pub-inflation/laws.FnFew", spec := "fnFew", inPlace := ["internal/reflectlite.ValueOf", "(internal/reflectlite.Value).Type", "(internal/reflectlite.Value).IsNil", "internal/reflectlite.TypeOf", "(internal/reflectlite.Value).Elem", "(internal/reflectlite.Value).Set"], unfollowed := true, recurses := true, named := ["io.EOF", "io.ErrUnexpectedEOF", "io.ErrShortBuffer", "loop.example/pub-inflation/pub/inflate.codeOrder", "errors.errorType"], apart := false, laid := [("errors.errorType", laid_errors_errorType), ("io.ErrShortBuffer", laid_io_ErrShortBuffer), ("io.EOF", laid_io_EOF), ("io.ErrUnexpectedEOF", laid_io_ErrUnexpectedEOF), ("loop.example/pub-inflation/pub/inflate.codeOrder", laid_loop_example_pub_inflation_pub_inflate_codeOrder)] }
def FnFewSaid : Prop := fnFewRow.holds Tryd.pinned (OpenSpec.ofChange fnFewSpec)

/-- ITS FALSE NEIGHBOUR: 'it returns false'. Refute it at one input. -/
def fnFewWrong : ChangeSpec := { name := "fnFew", vars := ["loop.example/pub-inflation/pub/inflate.codeOrder"], fn := fun _ => fun
  | [d, g1] => { results := [.lit (.bool false)], args := [d], vars := [g1] }
  | _ => none }
def FnFewWrongFalsely : Prop := fnFewRow.holds Tryd.pinned (OpenSpec.ofChange fnFewWrong)

/-- 'laws.FnExactLeft': WHATEVER THE INPUT: true; the input reads as it did. -/
def fnExactLeftSpec : ChangeSpec := { name := "fnExactLeft", vars := ["loop.example/pub-inflation/pub/inflate.codeOrder"], fn := fun _ => fun
  | [d, g1] => { results := [.lit (.bool true)], args := [d], vars := [g1] }
  | _ => none }
def fnExactLeftRow : OpenClaim := { program := "ytobbgfnnlbopjabdoor", sum := "ae60c59310bce247b318140ed8cb988600a24c9155e2209a3250f66baff89ecb", func := "loop.example/pub-inflation/laws.FnExactLeft", spec := "fnExactLeft", inPlace := ["internal/reflectlite.ValueOf", "(internal/reflectlite.Value).Type", "(internal/reflectlite.Value).IsNil", "internal/reflectlite.TypeOf", "(internal/reflectlite.Value).Elem", "(internal/reflectlite.Value).Set"], unfollowed := true, recurses := true, named := ["io.EOF", "io.ErrUnexpectedEOF", "io.ErrShortBuffer", "loop.example/pub-inflation/pub/inflate.codeOrder", "errors.errorType"], apart := false, laid := [("errors.errorType", laid_errors_errorType), ("io.ErrShortBuffer", laid_io_ErrShortBuffer), ("io.EOF", laid_io_EOF), ("io.ErrUnexpectedEOF", laid_io_ErrUnexpectedEOF), ("loop.example/pub-inflation/pub/inflate.codeOrder", laid_loop_example_pub_inflation_pub_inflate_codeOrder)] }
def FnExactLeftSaid : Prop := fnExactLeftRow.holds Tryd.pinned (OpenSpec.ofChange fnExactLeftSpec)

/-- ITS FALSE NEIGHBOUR: 'it returns false'. Refute it at one input. -/
def fnExactLeftWrong : ChangeSpec := { name := "fnExactLeft", vars := ["loop.example/pub-inflation/pub/inflate.codeOrder"], fn := fun _ => fun
  | [d, g1] => { results := [.lit (.bool false)], args := [d], vars := [g1] }
  | _ => none }
def FnExactLeftWrongFalsely : Prop := fnExactLeftRow.holds Tryd.pinned (OpenSpec.ofChange fnExactLeftWrong)

/-- 'laws.FnNothing': WHATEVER THE INPUT: true; the input reads as it did. -/
def fnNothingSpec : ChangeSpec := { name := "fnNothing", vars := ["loop.example/pub-inflation/pub/inflate.codeOrder"], fn := fun _ => fun
  | [d, g1] => { results := [.lit (.bool true)], args := [d], vars := [g1] }
  | _ => none }
def fnNothingRow : OpenClaim := { program := "ytobbgfnnlbopjabdoor", sum := "ae60c59310bce247b318140ed8cb988600a24c9155e2209a3250f66baff89ecb", func := "loop.example/pub-inflation/laws.FnNothing", spec := "fnNothing", inPlace := ["internal/reflectlite.ValueOf", "(internal/reflectlite.Value).Type", "(internal/reflectlite.Value).IsNil", "internal/reflectlite.TypeOf", "(internal/reflectlite.Value).Elem", "(internal/reflectlite.Value).Set"], unfollowed := true, recurses := true, named := ["io.EOF", "io.ErrUnexpectedEOF", "io.ErrShortBuffer", "loop.example/pub-inflation/pub/inflate.codeOrder", "errors.errorType"], apart := false, laid := [("errors.errorType", laid_errors_errorType), ("io.ErrShortBuffer", laid_io_ErrShortBuffer), ("io.EOF", laid_io_EOF), ("io.ErrUnexpectedEOF", laid_io_ErrUnexpectedEOF), ("loop.example/pub-inflation/pub/inflate.codeOrder", laid_loop_example_pub_inflation_pub_inflate_codeOrder)] }
def FnNothingSaid : Prop := fnNothingRow.holds Tryd.pinned (OpenSpec.ofChange fnNothingSpec)

/-- ITS FALSE NEIGHBOUR: 'it returns false'. Refute it at one input. -/
def fnNothingWrong : ChangeSpec := { name := "fnNothing", vars := ["loop.example/pub-inflation/pub/inflate.codeOrder"], fn := fun _ => fun
  | [d, g1] => { results := [.lit (.bool false)], args := [d], vars := [g1] }
  | _ => none }
def FnNothingWrongFalsely : Prop := fnNothingRow.holds Tryd.pinned (OpenSpec.ofChange fnNothingWrong)

/-- 'laws.FnErrorAgain': WHATEVER THE INPUT: true; the input reads as it did. -/
def fnErrorAgainSpec : ChangeSpec := { name := "fnErrorAgain", vars := ["loop.example/pub-inflation/pub/inflate.codeOrder"], fn := fun _ => fun
  | [d, g1] => { results := [.lit (.bool true)], args := [d], vars := [g1] }
  | _ => none }
def fnErrorAgainRow : OpenClaim := { program := "ytobbgfnnlbopjabdoor", sum := "ae60c59310bce247b318140ed8cb988600a24c9155e2209a3250f66baff89ecb", func := "loop.example/pub-inflation/laws.FnErrorAgain", spec := "fnErrorAgain", inPlace := ["internal/reflectlite.ValueOf", "(internal/reflectlite.Value).Type", "(internal/reflectlite.Value).IsNil", "internal/reflectlite.TypeOf", "(internal/reflectlite.Value).Elem", "(internal/reflectlite.Value).Set"], unfollowed := true, recurses := true, named := ["io.EOF", "io.ErrUnexpectedEOF", "io.ErrShortBuffer", "loop.example/pub-inflation/pub/inflate.codeOrder", "errors.errorType"], apart := false, laid := [("errors.errorType", laid_errors_errorType), ("io.ErrShortBuffer", laid_io_ErrShortBuffer), ("io.EOF", laid_io_EOF), ("io.ErrUnexpectedEOF", laid_io_ErrUnexpectedEOF), ("loop.example/pub-inflation/pub/inflate.codeOrder", laid_loop_example_pub_inflation_pub_inflate_codeOrder)] }
def FnErrorAgainSaid : Prop := fnErrorAgainRow.holds Tryd.pinned (OpenSpec.ofChange fnErrorAgainSpec)

/-- ITS FALSE NEIGHBOUR: 'it returns false'. Refute it at one input. -/
def fnErrorAgainWrong : ChangeSpec := { name := "fnErrorAgain", vars := ["loop.example/pub-inflation/pub/inflate.codeOrder"], fn := fun _ => fun
  | [d, g1] => { results := [.lit (.bool false)], args := [d], vars := [g1] }
  | _ => none }
def FnErrorAgainWrongFalsely : Prop := fnErrorAgainRow.holds Tryd.pinned (OpenSpec.ofChange fnErrorAgainWrong)

/- THE SECOND FORM. 'bulk': how many values and letters a reading holds, each counted each time it is reached (what is shared counts as often as it is met; a slice's spare places count too). A statement '..UptoSaid' is the law's where the arguments, and the package variables that the reading takes, are together of bulk at most 1048576: NARROWER than '..Said'. Prove '..Said' where nothing that the law and all that it calls make is longer than what came in: it says more and counts as full. Else prove '..UptoSaid'. A law counts once. -/
mutual
def uptoBulk {H : Type} : DataW H → Nat
  | .lit (.string bytes) => bytes.length + 1
  | .lit _ => 1
  | .nil => 1
  | .ptr d => uptoBulk d + 1
  | .slice elems spare => uptoBulkAll elems + uptoBulkAll spare + 1
  | .agg parts => uptoBulkAll parts + 1
  | .iface _ d => uptoBulk d + 1
  | .map entries => uptoBulkEntries entries + 1
  | .held _ => 1
def uptoBulkAll {H : Type} : List (DataW H) → Nat
  | [] => 0
  | d :: r => uptoBulk d + uptoBulkAll r
def uptoBulkEntries {H : Type} : List (Lit × DataW H) → Nat
  | [] => 0
  | x :: r => uptoBulkEntry x + uptoBulkEntries r
def uptoBulkEntry {H : Type} : Lit × DataW H → Nat
  | (.string bytes, d) => bytes.length + uptoBulk d + 1
  | (_, d) => uptoBulk d + 1
 end
def uptoSmall : (H : Type) → List (DataW H) → Bool := fun _ ds => decide (uptoBulkAll ds ≤ 1048576)
def OpenSpec.upto (s : _root_.Go.ChangeSpec) : _root_.Go.OpenSpec := { _root_.Go.OpenSpec.ofChange s with cond := some uptoSmall }

/-- 'laws.FnExactDict', WHERE WHAT IT READS IS OF BULK AT MOST 1048576: true; the input reads as it did. -/
def fnExactDictUptoRow : OpenClaim := { program := "ytobbgfnnlbopjabdoor", sum := "ae60c59310bce247b318140ed8cb988600a24c9155e2209a3250f66baff89ecb", func := "loop.example/pub-inflation/laws.FnExactDict", spec := "fnExactDict", inPlace := ["internal/reflectlite.ValueOf", "(internal/reflectlite.Value).Type", "(internal/reflectlite.Value).IsNil", "internal/reflectlite.TypeOf", "(internal/reflectlite.Value).Elem", "(internal/reflectlite.Value).Set"], unfollowed := true, recurses := true, named := ["io.EOF", "io.ErrUnexpectedEOF", "io.ErrShortBuffer", "loop.example/pub-inflation/pub/inflate.codeOrder", "errors.errorType"], apart := false, laid := [("errors.errorType", laid_errors_errorType), ("io.ErrShortBuffer", laid_io_ErrShortBuffer), ("io.EOF", laid_io_EOF), ("io.ErrUnexpectedEOF", laid_io_ErrUnexpectedEOF), ("loop.example/pub-inflation/pub/inflate.codeOrder", laid_loop_example_pub_inflation_pub_inflate_codeOrder)], narrowed := true }
def FnExactDictUptoSaid : Prop := fnExactDictUptoRow.holds Tryd.pinned (OpenSpec.upto fnExactDictSpec)

/-- 'laws.FnExactDictWrong', WHERE WHAT IT READS IS OF BULK AT MOST 1048576: true; the input reads as it did. -/
def fnExactDictWrongUptoRow : OpenClaim := { program := "ytobbgfnnlbopjabdoor", sum := "ae60c59310bce247b318140ed8cb988600a24c9155e2209a3250f66baff89ecb", func := "loop.example/pub-inflation/laws.FnExactDictWrong", spec := "fnExactDictWrong", inPlace := ["internal/reflectlite.ValueOf", "(internal/reflectlite.Value).Type", "(internal/reflectlite.Value).IsNil", "internal/reflectlite.TypeOf", "(internal/reflectlite.Value).Elem", "(internal/reflectlite.Value).Set"], unfollowed := true, recurses := true, named := ["io.EOF", "io.ErrUnexpectedEOF", "io.ErrShortBuffer", "loop.example/pub-inflation/pub/inflate.codeOrder", "errors.errorType"], apart := false, laid := [("errors.errorType", laid_errors_errorType), ("io.ErrShortBuffer", laid_io_ErrShortBuffer), ("io.EOF", laid_io_EOF), ("io.ErrUnexpectedEOF", laid_io_ErrUnexpectedEOF), ("loop.example/pub-inflation/pub/inflate.codeOrder", laid_loop_example_pub_inflation_pub_inflate_codeOrder)], narrowed := true }
def FnExactDictWrongUptoSaid : Prop := fnExactDictWrongUptoRow.holds Tryd.pinned (OpenSpec.upto fnExactDictWrongSpec)

/-- 'laws.FnFew', WHERE WHAT IT READS IS OF BULK AT MOST 1048576: true; the input reads as it did. -/
def fnFewUptoRow : OpenClaim := { program := "ytobbgfnnlbopjabdoor", sum := "ae60c59310bce247b318140ed8cb988600a24c9155e2209a3250f66baff89ecb", func := "loop.example/pub-inflation/laws.FnFew", spec := "fnFew", inPlace := ["internal/reflectlite.ValueOf", "(internal/reflectlite.Value).Type", "(internal/reflectlite.Value).IsNil", "internal/reflectlite.TypeOf", "(internal/reflectlite.Value).Elem", "(internal/reflectlite.Value).Set"], unfollowed := true, recurses := true, named := ["io.EOF", "io.ErrUnexpectedEOF", "io.ErrShortBuffer", "loop.example/pub-inflation/pub/inflate.codeOrder", "errors.errorType"], apart := false, laid := [("errors.errorType", laid_errors_errorType), ("io.ErrShortBuffer", laid_io_ErrShortBuffer), ("io.EOF", laid_io_EOF), ("io.ErrUnexpectedEOF", laid_io_ErrUnexpectedEOF), ("loop.example/pub-inflation/pub/inflate.codeOrder", laid_loop_example_pub_inflation_pub_inflate_codeOrder)], narrowed := true }
def FnFewUptoSaid : Prop := fnFewUptoRow.holds Tryd.pinned (OpenSpec.upto fnFewSpec)

/-- 'laws.FnExactLeft', WHERE WHAT IT READS IS OF BULK AT MOST 1048576: true; the input reads as it did. -/
def fnExactLeftUptoRow : OpenClaim := { program := "ytobbgfnnlbopjabdoor", sum := "ae60c59310bce247b318140ed8cb988600a24c9155e2209a3250f66baff89ecb", func := "loop.example/pub-inflation/laws.FnExactLeft", spec := "fnExactLeft", inPlace := ["internal/reflectlite.ValueOf", "(internal/reflectlite.Value).Type", "(internal/reflectlite.Value).IsNil", "internal/reflectlite.TypeOf", "(internal/reflectlite.Value).Elem", "(internal/reflectlite.Value).Set"], unfollowed := true, recurses := true, named := ["io.EOF", "io.ErrUnexpectedEOF", "io.ErrShortBuffer", "loop.example/pub-inflation/pub/inflate.codeOrder", "errors.errorType"], apart := false, laid := [("errors.errorType", laid_errors_errorType), ("io.ErrShortBuffer", laid_io_ErrShortBuffer), ("io.EOF", laid_io_EOF), ("io.ErrUnexpectedEOF", laid_io_ErrUnexpectedEOF), ("loop.example/pub-inflation/pub/inflate.codeOrder", laid_loop_example_pub_inflation_pub_inflate_codeOrder)], narrowed := true }
def FnExactLeftUptoSaid : Prop := fnExactLeftUptoRow.holds Tryd.pinned (OpenSpec.upto fnExactLeftSpec)

/-- 'laws.FnNothing', WHERE WHAT IT READS IS OF BULK AT MOST 1048576: true; the input reads as it did. -/
def fnNothingUptoRow : OpenClaim := { program := "ytobbgfnnlbopjabdoor", sum := "ae60c59310bce247b318140ed8cb988600a24c9155e2209a3250f66baff89ecb", func := "loop.example/pub-inflation/laws.FnNothing", spec := "fnNothing", inPlace := ["internal/reflectlite.ValueOf", "(internal/reflectlite.Value).Type", "(internal/reflectlite.Value).IsNil", "internal/reflectlite.TypeOf", "(internal/reflectlite.Value).Elem", "(internal/reflectlite.Value).Set"], unfollowed := true, recurses := true, named := ["io.EOF", "io.ErrUnexpectedEOF", "io.ErrShortBuffer", "loop.example/pub-inflation/pub/inflate.codeOrder", "errors.errorType"], apart := false, laid := [("errors.errorType", laid_errors_errorType), ("io.ErrShortBuffer", laid_io_ErrShortBuffer), ("io.EOF", laid_io_EOF), ("io.ErrUnexpectedEOF", laid_io_ErrUnexpectedEOF), ("loop.example/pub-inflation/pub/inflate.codeOrder", laid_loop_example_pub_inflation_pub_inflate_codeOrder)], narrowed := true }
def FnNothingUptoSaid : Prop := fnNothingUptoRow.holds Tryd.pinned (OpenSpec.upto fnNothingSpec)

/-- 'laws.FnErrorAgain', WHERE WHAT IT READS IS OF BULK AT MOST 1048576: true; the input reads as it did. -/
def fnErrorAgainUptoRow : OpenClaim := { program := "ytobbgfnnlbopjabdoor", sum := "ae60c59310bce247b318140ed8cb988600a24c9155e2209a3250f66baff89ecb", func := "loop.example/pub-inflation/laws.FnErrorAgain", spec := "fnErrorAgain", inPlace := ["internal/reflectlite.ValueOf", "(internal/reflectlite.Value).Type", "(internal/reflectlite.Value).IsNil", "internal/reflectlite.TypeOf", "(internal/reflectlite.Value).Elem", "(internal/reflectlite.Value).Set"], unfollowed := true, recurses := true, named := ["io.EOF", "io.ErrUnexpectedEOF", "io.ErrShortBuffer", "loop.example/pub-inflation/pub/inflate.codeOrder", "errors.errorType"], apart := false, laid := [("errors.errorType", laid_errors_errorType), ("io.ErrShortBuffer", laid_io_ErrShortBuffer), ("io.EOF", laid_io_EOF), ("io.ErrUnexpectedEOF", laid_io_ErrUnexpectedEOF), ("loop.example/pub-inflation/pub/inflate.codeOrder", laid_loop_example_pub_inflation_pub_inflate_codeOrder)], narrowed := true }
def FnErrorAgainUptoSaid : Prop := fnErrorAgainUptoRow.holds Tryd.pinned (OpenSpec.upto fnErrorAgainSpec)

end Rows
end Go.Proofs.YtobbgfnnlbopjabDoor
