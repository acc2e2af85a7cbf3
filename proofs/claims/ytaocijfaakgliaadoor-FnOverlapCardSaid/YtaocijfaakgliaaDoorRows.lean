/-
  NARROWER THAN 'FOR EVERY INPUT', by the rows' own cells (each row's printed sentence says how): FnDistance: laid · FnLiteral: laid · FnLong258: laid · FnOverlap: laid · FnRepeat: laid · FnStoredAny: laid · FnStoredSize: laid.
  DERIVED. THE GIVEN ROWS OF THIS SEAT. 7 by the template 'for every input the law returns true; each argument reads behind the call as it read before'; 0 by the template 'total and deterministic' (their statements: YtaocijfaakgliaaDoorTotals.lean).
  GIVEN WITH THE SEED: the statements are not yours to turn. If you find one false, say at which input.
  Laid BY PROGRAM, IN A SANDBOX (cutbox-rows.mjs): the forced cells as the released guide's own fill.sh prints them over the translation 6b6f5f1c5b19a702… (all of the seat's roots in one cut). By AI agents, Wed Nov 11 2026. No macro, syntax, notation, axiom, sorry.
-/
import Derived.Test.YtaocijfaakgliaaDoorChecked
import GoSem.Claim
import GoSem.ClaimJoined
import GoSem.ClaimMapViews
import Derived.JoinedTies
import Derived.KernelRfl
namespace Go.Proofs.YtaocijfaakgliaaDoor
/- THE CELL 'sum', in the pinned program and in every row, IS THE sha256 OF THE DUMP (.gsa) THAT YtaocijfaakgliaaDoorProg.lean LOADS. Nothing in Lean hashes anything: it is a label: what it is worth is what the hold of that sum in a sandbox is worth. -/
noncomputable def Tryd.pinned : Pinned := { name := "ytaocijfaakgliaadoor", sum := "6b6f5f1c5b19a702e1eddc16cdbf2bbb81e29b964fa746d9b26afb17d41d755e", checked := Tryd.checked }
namespace Rows
def none {H : Type} : Left H := { results := [], args := [] }

/- WHAT THE LISTED PACKAGE-LEVEL VARIABLES READ AS WHEN THE CALL BEGINS. Each datum BY PROGRAM (the guide's laid-datum.mjs) off the statement by which the dump's own 'gosem.cut.vars' lays the variable. In a bare row this is a premise. The card (YtaocijfaakgliaaDoorCards.lean) ties it to the program's text. -/
def laid_errors_errorType {H : Type} : DataW H := .iface "internal/reflectlite.rtype" (.agg [.ptr (.lit (.string [101, 114, 114, 111, 114]))])
def laid_io_ErrShortBuffer {H : Type} : DataW H := .iface "*errors.errorString" (.ptr (.agg [.lit (.string [115, 104, 111, 114, 116, 32, 98, 117, 102, 102, 101, 114])]))
def laid_io_EOF {H : Type} : DataW H := .iface "*errors.errorString" (.ptr (.agg [.lit (.string [69, 79, 70])]))
def laid_io_ErrUnexpectedEOF {H : Type} : DataW H := .iface "*errors.errorString" (.ptr (.agg [.lit (.string [117, 110, 101, 120, 112, 101, 99, 116, 101, 100, 32, 69, 79, 70])]))
def laid_loop_example_pub_inflation_pub_inflate_codeOrder {H : Type} : DataW H := .agg [.lit (.int .i64 16), .lit (.int .i64 17), .lit (.int .i64 18), .lit (.int .i64 0), .lit (.int .i64 8), .lit (.int .i64 7), .lit (.int .i64 9), .lit (.int .i64 6), .lit (.int .i64 10), .lit (.int .i64 5), .lit (.int .i64 11), .lit (.int .i64 4), .lit (.int .i64 12), .lit (.int .i64 3), .lit (.int .i64 13), .lit (.int .i64 2), .lit (.int .i64 14), .lit (.int .i64 1), .lit (.int .i64 15)]

/-- 'laws.FnDistance': WHATEVER THE INPUT: true; the input reads as it did. -/
def fnDistanceSpec : ChangeSpec := { name := "fnDistance", vars := ["loop.example/pub-inflation/pub/inflate.codeOrder"], fn := fun _ => fun
  | [d1, d2, g1] => { results := [.lit (.bool true)], args := [d1, d2], vars := [g1] }
  | _ => none }
def fnDistanceRow : OpenClaim := { program := "ytaocijfaakgliaadoor", sum := "6b6f5f1c5b19a702e1eddc16cdbf2bbb81e29b964fa746d9b26afb17d41d755e", func := "loop.example/pub-inflation/laws.FnDistance", spec := "fnDistance", inPlace := ["internal/reflectlite.ValueOf", "(internal/reflectlite.Value).Type", "(internal/reflectlite.Value).IsNil", "internal/reflectlite.TypeOf", "(internal/reflectlite.Value).Elem", "(internal/reflectlite.Value).Set"], unfollowed := true, recurses := true, named := ["io.EOF", "io.ErrUnexpectedEOF", "io.ErrShortBuffer", "loop.example/pub-inflation/pub/inflate.codeOrder", "errors.errorType"], apart := false, laid := [("errors.errorType", laid_errors_errorType), ("io.ErrShortBuffer", laid_io_ErrShortBuffer), ("io.EOF", laid_io_EOF), ("io.ErrUnexpectedEOF", laid_io_ErrUnexpectedEOF), ("loop.example/pub-inflation/pub/inflate.codeOrder", laid_loop_example_pub_inflation_pub_inflate_codeOrder)] }
def FnDistanceSaid : Prop := fnDistanceRow.holds Tryd.pinned (OpenSpec.ofChange fnDistanceSpec)

/-- ITS FALSE NEIGHBOUR: 'it returns false'. Refute it at one input. -/
def fnDistanceWrong : ChangeSpec := { name := "fnDistance", vars := ["loop.example/pub-inflation/pub/inflate.codeOrder"], fn := fun _ => fun
  | [d1, d2, g1] => { results := [.lit (.bool false)], args := [d1, d2], vars := [g1] }
  | _ => none }
def FnDistanceWrongFalsely : Prop := fnDistanceRow.holds Tryd.pinned (OpenSpec.ofChange fnDistanceWrong)

/-- 'laws.FnLiteral': WHATEVER THE INPUT: true; the input reads as it did. -/
def fnLiteralSpec : ChangeSpec := { name := "fnLiteral", vars := ["loop.example/pub-inflation/pub/inflate.codeOrder"], fn := fun _ => fun
  | [d, g1] => { results := [.lit (.bool true)], args := [d], vars := [g1] }
  | _ => none }
def fnLiteralRow : OpenClaim := { program := "ytaocijfaakgliaadoor", sum := "6b6f5f1c5b19a702e1eddc16cdbf2bbb81e29b964fa746d9b26afb17d41d755e", func := "loop.example/pub-inflation/laws.FnLiteral", spec := "fnLiteral", inPlace := ["internal/reflectlite.ValueOf", "(internal/reflectlite.Value).Type", "(internal/reflectlite.Value).IsNil", "internal/reflectlite.TypeOf", "(internal/reflectlite.Value).Elem", "(internal/reflectlite.Value).Set"], unfollowed := true, recurses := true, named := ["io.EOF", "io.ErrUnexpectedEOF", "io.ErrShortBuffer", "loop.example/pub-inflation/pub/inflate.codeOrder", "errors.errorType"], apart := false, laid := [("errors.errorType", laid_errors_errorType), ("io.ErrShortBuffer", laid_io_ErrShortBuffer), ("io.EOF", laid_io_EOF), ("io.ErrUnexpectedEOF", laid_io_ErrUnexpectedEOF), ("loop.example/pub-inflation/pub/inflate.codeOrder", laid_loop_example_pub_inflation_pub_inflate_codeOrder)] }
def FnLiteralSaid : Prop := fnLiteralRow.holds Tryd.pinned (OpenSpec.ofChange fnLiteralSpec)

/-- ITS FALSE NEIGHBOUR: 'it returns false'. Refute it at one input. -/
def fnLiteralWrong : ChangeSpec := { name := "fnLiteral", vars := ["loop.example/pub-inflation/pub/inflate.codeOrder"], fn := fun _ => fun
  | [d, g1] => { results := [.lit (.bool false)], args := [d], vars := [g1] }
  | _ => none }
def FnLiteralWrongFalsely : Prop := fnLiteralRow.holds Tryd.pinned (OpenSpec.ofChange fnLiteralWrong)

/-- 'laws.FnLong258': WHATEVER THE INPUT: true; the input reads as it did. -/
def fnLong258Spec : ChangeSpec := { name := "fnLong258", vars := ["loop.example/pub-inflation/pub/inflate.codeOrder"], fn := fun _ => fun
  | [d, g1] => { results := [.lit (.bool true)], args := [d], vars := [g1] }
  | _ => none }
def fnLong258Row : OpenClaim := { program := "ytaocijfaakgliaadoor", sum := "6b6f5f1c5b19a702e1eddc16cdbf2bbb81e29b964fa746d9b26afb17d41d755e", func := "loop.example/pub-inflation/laws.FnLong258", spec := "fnLong258", inPlace := ["internal/reflectlite.ValueOf", "(internal/reflectlite.Value).Type", "(internal/reflectlite.Value).IsNil", "internal/reflectlite.TypeOf", "(internal/reflectlite.Value).Elem", "(internal/reflectlite.Value).Set"], unfollowed := true, recurses := true, named := ["io.EOF", "io.ErrUnexpectedEOF", "io.ErrShortBuffer", "loop.example/pub-inflation/pub/inflate.codeOrder", "errors.errorType"], apart := false, laid := [("errors.errorType", laid_errors_errorType), ("io.ErrShortBuffer", laid_io_ErrShortBuffer), ("io.EOF", laid_io_EOF), ("io.ErrUnexpectedEOF", laid_io_ErrUnexpectedEOF), ("loop.example/pub-inflation/pub/inflate.codeOrder", laid_loop_example_pub_inflation_pub_inflate_codeOrder)] }
def FnLong258Said : Prop := fnLong258Row.holds Tryd.pinned (OpenSpec.ofChange fnLong258Spec)

/-- ITS FALSE NEIGHBOUR: 'it returns false'. Refute it at one input. -/
def fnLong258Wrong : ChangeSpec := { name := "fnLong258", vars := ["loop.example/pub-inflation/pub/inflate.codeOrder"], fn := fun _ => fun
  | [d, g1] => { results := [.lit (.bool false)], args := [d], vars := [g1] }
  | _ => none }
def FnLong258WrongFalsely : Prop := fnLong258Row.holds Tryd.pinned (OpenSpec.ofChange fnLong258Wrong)

/-- 'laws.FnOverlap': WHATEVER THE INPUT: true; the input reads as it did. -/
def fnOverlapSpec : ChangeSpec := { name := "fnOverlap", vars := ["loop.example/pub-inflation/pub/inflate.codeOrder"], fn := fun _ => fun
  | [d1, d2, d3, g1] => { results := [.lit (.bool true)], args := [d1, d2, d3], vars := [g1] }
  | _ => none }
def fnOverlapRow : OpenClaim := { program := "ytaocijfaakgliaadoor", sum := "6b6f5f1c5b19a702e1eddc16cdbf2bbb81e29b964fa746d9b26afb17d41d755e", func := "loop.example/pub-inflation/laws.FnOverlap", spec := "fnOverlap", inPlace := ["internal/reflectlite.ValueOf", "(internal/reflectlite.Value).Type", "(internal/reflectlite.Value).IsNil", "internal/reflectlite.TypeOf", "(internal/reflectlite.Value).Elem", "(internal/reflectlite.Value).Set"], unfollowed := true, recurses := true, named := ["io.EOF", "io.ErrUnexpectedEOF", "io.ErrShortBuffer", "loop.example/pub-inflation/pub/inflate.codeOrder", "errors.errorType"], apart := false, laid := [("errors.errorType", laid_errors_errorType), ("io.ErrShortBuffer", laid_io_ErrShortBuffer), ("io.EOF", laid_io_EOF), ("io.ErrUnexpectedEOF", laid_io_ErrUnexpectedEOF), ("loop.example/pub-inflation/pub/inflate.codeOrder", laid_loop_example_pub_inflation_pub_inflate_codeOrder)] }
def FnOverlapSaid : Prop := fnOverlapRow.holds Tryd.pinned (OpenSpec.ofChange fnOverlapSpec)

/-- ITS FALSE NEIGHBOUR: 'it returns false'. Refute it at one input. -/
def fnOverlapWrong : ChangeSpec := { name := "fnOverlap", vars := ["loop.example/pub-inflation/pub/inflate.codeOrder"], fn := fun _ => fun
  | [d1, d2, d3, g1] => { results := [.lit (.bool false)], args := [d1, d2, d3], vars := [g1] }
  | _ => none }
def FnOverlapWrongFalsely : Prop := fnOverlapRow.holds Tryd.pinned (OpenSpec.ofChange fnOverlapWrong)

/-- 'laws.FnRepeat': WHATEVER THE INPUT: true; the input reads as it did. -/
def fnRepeatSpec : ChangeSpec := { name := "fnRepeat", vars := ["loop.example/pub-inflation/pub/inflate.codeOrder"], fn := fun _ => fun
  | [d1, d2, g1] => { results := [.lit (.bool true)], args := [d1, d2], vars := [g1] }
  | _ => none }
def fnRepeatRow : OpenClaim := { program := "ytaocijfaakgliaadoor", sum := "6b6f5f1c5b19a702e1eddc16cdbf2bbb81e29b964fa746d9b26afb17d41d755e", func := "loop.example/pub-inflation/laws.FnRepeat", spec := "fnRepeat", inPlace := ["internal/reflectlite.ValueOf", "(internal/reflectlite.Value).Type", "(internal/reflectlite.Value).IsNil", "internal/reflectlite.TypeOf", "(internal/reflectlite.Value).Elem", "(internal/reflectlite.Value).Set"], unfollowed := true, recurses := true, named := ["io.EOF", "io.ErrUnexpectedEOF", "io.ErrShortBuffer", "loop.example/pub-inflation/pub/inflate.codeOrder", "errors.errorType"], apart := false, laid := [("errors.errorType", laid_errors_errorType), ("io.ErrShortBuffer", laid_io_ErrShortBuffer), ("io.EOF", laid_io_EOF), ("io.ErrUnexpectedEOF", laid_io_ErrUnexpectedEOF), ("loop.example/pub-inflation/pub/inflate.codeOrder", laid_loop_example_pub_inflation_pub_inflate_codeOrder)] }
def FnRepeatSaid : Prop := fnRepeatRow.holds Tryd.pinned (OpenSpec.ofChange fnRepeatSpec)

/-- ITS FALSE NEIGHBOUR: 'it returns false'. Refute it at one input. -/
def fnRepeatWrong : ChangeSpec := { name := "fnRepeat", vars := ["loop.example/pub-inflation/pub/inflate.codeOrder"], fn := fun _ => fun
  | [d1, d2, g1] => { results := [.lit (.bool false)], args := [d1, d2], vars := [g1] }
  | _ => none }
def FnRepeatWrongFalsely : Prop := fnRepeatRow.holds Tryd.pinned (OpenSpec.ofChange fnRepeatWrong)

/-- 'laws.FnStoredAny': WHATEVER THE INPUT: true; the input reads as it did. -/
def fnStoredAnySpec : ChangeSpec := { name := "fnStoredAny", vars := ["loop.example/pub-inflation/pub/inflate.codeOrder"], fn := fun _ => fun
  | [d1, d2, g1] => { results := [.lit (.bool true)], args := [d1, d2], vars := [g1] }
  | _ => none }
def fnStoredAnyRow : OpenClaim := { program := "ytaocijfaakgliaadoor", sum := "6b6f5f1c5b19a702e1eddc16cdbf2bbb81e29b964fa746d9b26afb17d41d755e", func := "loop.example/pub-inflation/laws.FnStoredAny", spec := "fnStoredAny", inPlace := ["internal/reflectlite.ValueOf", "(internal/reflectlite.Value).Type", "(internal/reflectlite.Value).IsNil", "internal/reflectlite.TypeOf", "(internal/reflectlite.Value).Elem", "(internal/reflectlite.Value).Set"], unfollowed := true, recurses := true, named := ["io.EOF", "io.ErrUnexpectedEOF", "io.ErrShortBuffer", "loop.example/pub-inflation/pub/inflate.codeOrder", "errors.errorType"], apart := false, laid := [("errors.errorType", laid_errors_errorType), ("io.ErrShortBuffer", laid_io_ErrShortBuffer), ("io.EOF", laid_io_EOF), ("io.ErrUnexpectedEOF", laid_io_ErrUnexpectedEOF), ("loop.example/pub-inflation/pub/inflate.codeOrder", laid_loop_example_pub_inflation_pub_inflate_codeOrder)] }
def FnStoredAnySaid : Prop := fnStoredAnyRow.holds Tryd.pinned (OpenSpec.ofChange fnStoredAnySpec)

/-- ITS FALSE NEIGHBOUR: 'it returns false'. Refute it at one input. -/
def fnStoredAnyWrong : ChangeSpec := { name := "fnStoredAny", vars := ["loop.example/pub-inflation/pub/inflate.codeOrder"], fn := fun _ => fun
  | [d1, d2, g1] => { results := [.lit (.bool false)], args := [d1, d2], vars := [g1] }
  | _ => none }
def FnStoredAnyWrongFalsely : Prop := fnStoredAnyRow.holds Tryd.pinned (OpenSpec.ofChange fnStoredAnyWrong)

/-- 'laws.FnStoredSize': WHATEVER THE INPUT: true; the input reads as it did. -/
def fnStoredSizeSpec : ChangeSpec := { name := "fnStoredSize", vars := ["loop.example/pub-inflation/pub/inflate.codeOrder"], fn := fun _ => fun
  | [d, g1] => { results := [.lit (.bool true)], args := [d], vars := [g1] }
  | _ => none }
def fnStoredSizeRow : OpenClaim := { program := "ytaocijfaakgliaadoor", sum := "6b6f5f1c5b19a702e1eddc16cdbf2bbb81e29b964fa746d9b26afb17d41d755e", func := "loop.example/pub-inflation/laws.FnStoredSize", spec := "fnStoredSize", inPlace := ["internal/reflectlite.ValueOf", "(internal/reflectlite.Value).Type", "(internal/reflectlite.Value).IsNil", "internal/reflectlite.TypeOf", "(internal/reflectlite.Value).Elem", "(internal/reflectlite.Value).Set"], unfollowed := true, recurses := true, named := ["io.EOF", "io.ErrUnexpectedEOF", "io.ErrShortBuffer", "loop.example/pub-inflation/pub/inflate.codeOrder", "errors.errorType"], apart := false, laid := [("errors.errorType", laid_errors_errorType), ("io.ErrShortBuffer", laid_io_ErrShortBuffer), ("io.EOF", laid_io_EOF), ("io.ErrUnexpectedEOF", laid_io_ErrUnexpectedEOF), ("loop.example/pub-inflation/pub/inflate.codeOrder", laid_loop_example_pub_inflation_pub_inflate_codeOrder)] }
def FnStoredSizeSaid : Prop := fnStoredSizeRow.holds Tryd.pinned (OpenSpec.ofChange fnStoredSizeSpec)

/-- ITS FALSE NEIGHBOUR: 'it returns false'. Refute it at one input. -/
def fnStoredSizeWrong : ChangeSpec := { name := "fnStoredSize", vars := ["loop.example/pub-inflation/pub/inflate.codeOrder"], fn := fun _ => fun
  | [d, g1] => { results := [.lit (.bool false)], args := [d], vars := [g1] }
  | _ => none }
def FnStoredSizeWrongFalsely : Prop := fnStoredSizeRow.holds Tryd.pinned (OpenSpec.ofChange fnStoredSizeWrong)

/- THE SECOND FORM. 'bulk': how many values and letters a reading holds, each counted each time it is reached (what is shared counts as often as it is met; a slice's spare places count too). A statement '..UptoSaid' is the law's where the arguments, and the package variables that the reading takes, are together of bulk at most 1048576: NARROWER than '..Said'. Prove '..Said' where nothing that the law and all that it calls make is longer than what came in: it says more and counts as full. Else prove '..UptoSaid'. A law counts once. -/
mutual
def uptoBulk {H : Type} : DataW H → Nat
  | .lit (.string bytes) => bytes.length + 1
  | .lit _ => 1
  | .nil => 1
  | .ptr d => uptoBulk d + 1
  | .slice elems spare => uptoBulkAll elems + uptoBulkAll spare + 1
  | .agg parts => uptoBulkAll parts + 1
  | .iface _ d => uptoBulk d + 1
  | .map entries => uptoBulkEntries entries + 1
  | .held _ => 1
def uptoBulkAll {H : Type} : List (DataW H) → Nat
  | [] => 0
  | d :: r => uptoBulk d + uptoBulkAll r
def uptoBulkEntries {H : Type} : List (Lit × DataW H) → Nat
  | [] => 0
  | x :: r => uptoBulkEntry x + uptoBulkEntries r
def uptoBulkEntry {H : Type} : Lit × DataW H → Nat
  | (.string bytes, d) => bytes.length + uptoBulk d + 1
  | (_, d) => uptoBulk d + 1
 end
def uptoSmall : (H : Type) → List (DataW H) → Bool := fun _ ds => decide (uptoBulkAll ds ≤ 1048576)
def OpenSpec.upto (s : _root_.Go.ChangeSpec) : _root_.Go.OpenSpec := { _root_.Go.OpenSpec.ofChange s with cond := some uptoSmall }

/-- 'laws.FnDistance', WHERE WHAT IT READS IS OF BULK AT MOST 1048576: true; the input reads as it did. -/
def fnDistanceUptoRow : OpenClaim := { program := "ytaocijfaakgliaadoor", sum := "6b6f5f1c5b19a702e1eddc16cdbf2bbb81e29b964fa746d9b26afb17d41d755e", func := "loop.example/pub-inflation/laws.FnDistance", spec := "fnDistance", inPlace := ["internal/reflectlite.ValueOf", "(internal/reflectlite.Value).Type", "(internal/reflectlite.Value).IsNil", "internal/reflectlite.TypeOf", "(internal/reflectlite.Value).Elem", "(internal/reflectlite.Value).Set"], unfollowed := true, recurses := true, named := ["io.EOF", "io.ErrUnexpectedEOF", "io.ErrShortBuffer", "loop.example/pub-inflation/pub/inflate.codeOrder", "errors.errorType"], apart := false, laid := [("errors.errorType", laid_errors_errorType), ("io.ErrShortBuffer", laid_io_ErrShortBuffer), ("io.EOF", laid_io_EOF), ("io.ErrUnexpectedEOF", laid_io_ErrUnexpectedEOF), ("loop.example/pub-inflation/pub/inflate.codeOrder", laid_loop_example_pub_inflation_pub_inflate_codeOrder)], narrowed := true }
def FnDistanceUptoSaid : Prop := fnDistanceUptoRow.holds Tryd.pinned (OpenSpec.upto fnDistanceSpec)

/-- 'laws.FnLiteral', WHERE WHAT IT READS IS OF BULK AT MOST 1048576: true; the input reads as it did. -/
def fnLiteralUptoRow : OpenClaim := { program := "ytaocijfaakgliaadoor", sum := "6b6f5f1c5b19a702e1eddc16cdbf2bbb81e29b964fa746d9b26afb17d41d755e", func := "loop.example/pub-inflation/laws.FnLiteral", spec := "fnLiteral", inPlace := ["internal/reflectlite.ValueOf", "(internal/reflectlite.Value).Type", "(internal/reflectlite.Value).IsNil", "internal/reflectlite.TypeOf", "(internal/reflectlite.Value).Elem", "(internal/reflectlite.Value).Set"], unfollowed := true, recurses := true, named := ["io.EOF", "io.ErrUnexpectedEOF", "io.ErrShortBuffer", "loop.example/pub-inflation/pub/inflate.codeOrder", "errors.errorType"], apart := false, laid := [("errors.errorType", laid_errors_errorType), ("io.ErrShortBuffer", laid_io_ErrShortBuffer), ("io.EOF", laid_io_EOF), ("io.ErrUnexpectedEOF", laid_io_ErrUnexpectedEOF), ("loop.example/pub-inflation/pub/inflate.codeOrder", laid_loop_example_pub_inflation_pub_inflate_codeOrder)], narrowed := true }
def FnLiteralUptoSaid : Prop := fnLiteralUptoRow.holds Tryd.pinned (OpenSpec.upto fnLiteralSpec)

/-- 'laws.FnLong258', WHERE WHAT IT READS IS OF BULK AT MOST 1048576: true; the input reads as it did. -/
def fnLong258UptoRow : OpenClaim := { program := "ytaocijfaakgliaadoor", sum := "6b6f5f1c5b19a702e1eddc16cdbf2bbb81e29b964fa746d9b26afb17d41d755e", func := "loop.example/pub-inflation/laws.FnLong258", spec := "fnLong258", inPlace := ["internal/reflectlite.ValueOf", "(internal/reflectlite.Value).Type", "(internal/reflectlite.Value).IsNil", "internal/reflectlite.TypeOf", "(internal/reflectlite.Value).Elem", "(internal/reflectlite.Value).Set"], unfollowed := true, recurses := true, named := ["io.EOF", "io.ErrUnexpectedEOF", "io.ErrShortBuffer", "loop.example/pub-inflation/pub/inflate.codeOrder", "errors.errorType"], apart := false, laid := [("errors.errorType", laid_errors_errorType), ("io.ErrShortBuffer", laid_io_ErrShortBuffer), ("io.EOF", laid_io_EOF), ("io.ErrUnexpectedEOF", laid_io_ErrUnexpectedEOF), ("loop.example/pub-inflation/pub/inflate.codeOrder", laid_loop_example_pub_inflation_pub_inflate_codeOrder)], narrowed := true }
def FnLong258UptoSaid : Prop := fnLong258UptoRow.holds Tryd.pinned (OpenSpec.upto fnLong258Spec)

/-- 'laws.FnOverlap', WHERE WHAT IT READS IS OF BULK AT MOST 1048576: true; the input reads as it did. -/
def fnOverlapUptoRow : OpenClaim := { program := "ytaocijfaakgliaadoor", sum := "6b6f5f1c5b19a702e1eddc16cdbf2bbb81e29b964fa746d9b26afb17d41d755e", func := "loop.example/pub-inflation/laws.FnOverlap", spec := "fnOverlap", inPlace := ["internal/reflectlite.ValueOf", "(internal/reflectlite.Value).Type", "(internal/reflectlite.Value).IsNil", "internal/reflectlite.TypeOf", "(internal/reflectlite.Value).Elem", "(internal/reflectlite.Value).Set"], unfollowed := true, recurses := true, named := ["io.EOF", "io.ErrUnexpectedEOF", "io.ErrShortBuffer", "loop.example/pub-inflation/pub/inflate.codeOrder", "errors.errorType"], apart := false, laid := [("errors.errorType", laid_errors_errorType), ("io.ErrShortBuffer", laid_io_ErrShortBuffer), ("io.EOF", laid_io_EOF), ("io.ErrUnexpectedEOF", laid_io_ErrUnexpectedEOF), ("loop.example/pub-inflation/pub/inflate.codeOrder", laid_loop_example_pub_inflation_pub_inflate_codeOrder)], narrowed := true }
def FnOverlapUptoSaid : Prop := fnOverlapUptoRow.holds Tryd.pinned (OpenSpec.upto fnOverlapSpec)

/-- 'laws.FnRepeat', WHERE WHAT IT READS IS OF BULK AT MOST 1048576: true; the input reads as it did. -/
def fnRepeatUptoRow : OpenClaim := { program := "ytaocijfaakgliaadoor", sum := "6b6f5f1c5b19a702e1eddc16cdbf2bbb81e29b964fa746d9b26afb17d41d755e", func := "loop.example/pub-inflation/laws.FnRepeat", spec := "fnRepeat", inPlace := ["internal/reflectlite.ValueOf", "(internal/reflectlite.Value).Type", "(internal/reflectlite.Value).IsNil", "internal/reflectlite.TypeOf", "(internal/reflectlite.Value).Elem", "(internal/reflectlite.Value).Set"], unfollowed := true, recurses := true, named := ["io.EOF", "io.ErrUnexpectedEOF", "io.ErrShortBuffer", "loop.example/pub-inflation/pub/inflate.codeOrder", "errors.errorType"], apart := false, laid := [("errors.errorType", laid_errors_errorType), ("io.ErrShortBuffer", laid_io_ErrShortBuffer), ("io.EOF", laid_io_EOF), ("io.ErrUnexpectedEOF", laid_io_ErrUnexpectedEOF), ("loop.example/pub-inflation/pub/inflate.codeOrder", laid_loop_example_pub_inflation_pub_inflate_codeOrder)], narrowed := true }
def FnRepeatUptoSaid : Prop := fnRepeatUptoRow.holds Tryd.pinned (OpenSpec.upto fnRepeatSpec)

/-- 'laws.FnStoredAny', WHERE WHAT IT READS IS OF BULK AT MOST 1048576: true; the input reads as it did. -/
def fnStoredAnyUptoRow : OpenClaim := { program := "ytaocijfaakgliaadoor", sum := "6b6f5f1c5b19a702e1eddc16cdbf2bbb81e29b964fa746d9b26afb17d41d755e", func := "loop.example/pub-inflation/laws.FnStoredAny", spec := "fnStoredAny", inPlace := ["internal/reflectlite.ValueOf", "(internal/reflectlite.Value).Type", "(internal/reflectlite.Value).IsNil", "internal/reflectlite.TypeOf", "(internal/reflectlite.Value).Elem", "(internal/reflectlite.Value).Set"], unfollowed := true, recurses := true, named := ["io.EOF", "io.ErrUnexpectedEOF", "io.ErrShortBuffer", "loop.example/pub-inflation/pub/inflate.codeOrder", "errors.errorType"], apart := false, laid := [("errors.errorType", laid_errors_errorType), ("io.ErrShortBuffer", laid_io_ErrShortBuffer), ("io.EOF", laid_io_EOF), ("io.ErrUnexpectedEOF", laid_io_ErrUnexpectedEOF), ("loop.example/pub-inflation/pub/inflate.codeOrder", laid_loop_example_pub_inflation_pub_inflate_codeOrder)], narrowed := true }
def FnStoredAnyUptoSaid : Prop := fnStoredAnyUptoRow.holds Tryd.pinned (OpenSpec.upto fnStoredAnySpec)

/-- 'laws.FnStoredSize', WHERE WHAT IT READS IS OF BULK AT MOST 1048576: true; the input reads as it did. -/
def fnStoredSizeUptoRow : OpenClaim := { program := "ytaocijfaakgliaadoor", sum := "6b6f5f1c5b19a702e1eddc16cdbf2bbb81e29b964fa746d9b26afb17d41d755e", func := "loop.example/pub-inflation/laws.FnStoredSize", spec := "fnStoredSize", inPlace := ["internal/reflectlite.ValueOf", "(internal/reflectlite.Value).Type", "(internal/reflectlite.Value).IsNil", "internal/reflectlite.TypeOf", "(internal/reflectlite.Value).Elem", "(internal/reflectlite.Value).Set"], unfollowed := true, recurses := true, named := ["io.EOF", "io.ErrUnexpectedEOF", "io.ErrShortBuffer", "loop.example/pub-inflation/pub/inflate.codeOrder", "errors.errorType"], apart := false, laid := [("errors.errorType", laid_errors_errorType), ("io.ErrShortBuffer", laid_io_ErrShortBuffer), ("io.EOF", laid_io_EOF), ("io.ErrUnexpectedEOF", laid_io_ErrUnexpectedEOF), ("loop.example/pub-inflation/pub/inflate.codeOrder", laid_loop_example_pub_inflation_pub_inflate_codeOrder)], narrowed := true }
def FnStoredSizeUptoSaid : Prop := fnStoredSizeUptoRow.holds Tryd.pinned (OpenSpec.upto fnStoredSizeSpec)

end Rows
end Go.Proofs.YtaocijfaakgliaaDoor
