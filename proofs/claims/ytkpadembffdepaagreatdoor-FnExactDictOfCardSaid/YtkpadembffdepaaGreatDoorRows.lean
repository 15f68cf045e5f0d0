/-
  NARROWER THAN 'FOR EVERY INPUT', by the rows' own cells (each row's printed sentence says how): FnBadRun: laid · FnExactDictOf: laid · FnExactDynamic: laid · FnExactFar: laid · FnExactFixed: laid · FnExactMixed: laid · FnExactSpare: laid · FnExactStored: laid · FnNever: laid · FnNotLen: laid · FnOver: laid · FnTooFar: laid · FnTypeThree: laid.
  DERIVED. THE GIVEN ROWS OF THIS SEAT. 13 by the template 'for every input the law returns true; each argument reads behind the call as it read before'; 0 by the template 'total and deterministic' (their statements: YtkpadembffdepaaGreatDoorTotals.lean).
  GIVEN WITH THE SEED: the statements are not yours to turn. If you find one false, say at which input.
  Laid BY PROGRAM, IN A SANDBOX (cutbox-rows.mjs): the forced cells as the released guide's own fill.sh prints them over the translation 33ade7576e5d27a5… (all of the seat's roots in one cut). By AI agents, Wed Nov 11 2026. No macro, syntax, notation, axiom, sorry.
-/
import Derived.Test.YtkpadembffdepaaGreatDoorChecked
import GoSem.Claim
import GoSem.ClaimJoined
import GoSem.ClaimMapViews
import Derived.JoinedTies
import Derived.KernelRfl
namespace Go.Proofs.YtkpadembffdepaaGreatDoor
/- THE CELL 'sum', in the pinned program and in every row, IS THE sha256 OF THE DUMP (.gsa) THAT YtkpadembffdepaaGreatDoorProg.lean LOADS. Nothing in Lean hashes anything: it is a label: what it is worth is what the hold of that sum in a sandbox is worth. -/
noncomputable def Tryz.pinned : Pinned := { name := "ytkpadembffdepaagreatdoor", sum := "33ade7576e5d27a5d72b26735098533fe985f0d4e0098794ea79df8bd814877d", checked := Tryz.checked }
namespace Rows
def none {H : Type} : Left H := { results := [], args := [] }

/- WHAT THE LISTED PACKAGE-LEVEL VARIABLES READ AS WHEN THE CALL BEGINS. Each datum BY PROGRAM (the guide's laid-datum.mjs) off the statement by which the dump's own 'gosem.cut.vars' lays the variable. In a bare row this is a premise. The card (YtkpadembffdepaaGreatDoorCards.lean) ties it to the program's text. -/
def laid_errors_errorType {H : Type} : DataW H := .iface "internal/reflectlite.rtype" (.agg [.ptr (.lit (.string [101, 114, 114, 111, 114]))])
def laid_io_ErrShortBuffer {H : Type} : DataW H := .iface "*errors.errorString" (.ptr (.agg [.lit (.string [115, 104, 111, 114, 116, 32, 98, 117, 102, 102, 101, 114])]))
def laid_io_EOF {H : Type} : DataW H := .iface "*errors.errorString" (.ptr (.agg [.lit (.string [69, 79, 70])]))
def laid_io_ErrUnexpectedEOF {H : Type} : DataW H := .iface "*errors.errorString" (.ptr (.agg [.lit (.string [117, 110, 101, 120, 112, 101, 99, 116, 101, 100, 32, 69, 79, 70])]))
def laid_loop_example_pub_inflation_pub_inflate_codeOrder {H : Type} : DataW H := .agg [.lit (.int .i64 16), .lit (.int .i64 17), .lit (.int .i64 18), .lit (.int .i64 0), .lit (.int .i64 8), .lit (.int .i64 7), .lit (.int .i64 9), .lit (.int .i64 6), .lit (.int .i64 10), .lit (.int .i64 5), .lit (.int .i64 11), .lit (.int .i64 4), .lit (.int .i64 12), .lit (.int .i64 3), .lit (.int .i64 13), .lit (.int .i64 2), .lit (.int .i64 14), .lit (.int .i64 1), .lit (.int .i64 15)]

/-- 'laws.FnBadRun': WHATEVER THE INPUT: true; the input reads as it did. -/
def fnBadRunSpec : ChangeSpec := { name := "fnBadRun", vars := ["loop.example/pub-inflation/pub/inflate.codeOrder"], fn := fun _ => fun
  | [d, g1] => { results := [.lit (.bool true)], args := [d], vars := [g1] }
  | _ => none }
def fnBadRunRow : OpenClaim := { program := "ytkpadembffdepaagreatdoor", sum := "33ade7576e5d27a5d72b26735098533fe985f0d4e0098794ea79df8bd814877d", func := "loop.example/pub-inflation/laws.FnBadRun", spec := "fnBadRun", inPlace := ["internal/reflectlite.ValueOf", "(internal/reflectlite.Value).Type", "(internal/reflectlite.Value).IsNil", "internal/reflectlite.TypeOf", "(internal/reflectlite.Value).Elem", "(internal/reflectlite.Value).Set"], unfollowed := true, recurses := true, named := ["io.EOF", "io.ErrUnexpectedEOF", "io.ErrShortBuffer", "loop.example/pub-inflation/pub/inflate.codeOrder", "errors.errorType"], apart := false, laid := [("errors.errorType", laid_errors_errorType), ("io.ErrShortBuffer", laid_io_ErrShortBuffer), ("io.EOF", laid_io_EOF), ("io.ErrUnexpectedEOF", laid_io_ErrUnexpectedEOF), ("loop.example/pub-inflation/pub/inflate.codeOrder", laid_loop_example_pub_inflation_pub_inflate_codeOrder)] }
def FnBadRunSaid : Prop := fnBadRunRow.holds Tryz.pinned (OpenSpec.ofChange fnBadRunSpec)

/-- ITS FALSE NEIGHBOUR: 'it returns false'. Refute it at one input. -/
def fnBadRunWrong : ChangeSpec := { name := "fnBadRun", vars := ["loop.example/pub-inflation/pub/inflate.codeOrder"], fn := fun _ => fun
  | [d, g1] => { results := [.lit (.bool false)], args := [d], vars := [g1] }
  | _ => none }
def FnBadRunWrongFalsely : Prop := fnBadRunRow.holds Tryz.pinned (OpenSpec.ofChange fnBadRunWrong)

/-- 'laws.FnExactDictOf': WHATEVER THE INPUT: true; the input reads as it did. -/
def fnExactDictOfSpec : ChangeSpec := { name := "fnExactDictOf", vars := ["loop.example/pub-inflation/pub/inflate.codeOrder"], fn := fun _ => fun
  | [d, g1] => { results := [.lit (.bool true)], args := [d], vars := [g1] }
  | _ => none }
def fnExactDictOfRow : OpenClaim := { program := "ytkpadembffdepaagreatdoor", sum := "33ade7576e5d27a5d72b26735098533fe985f0d4e0098794ea79df8bd814877d", func := "loop.example/pub-inflation/laws.FnExactDictOf", spec := "fnExactDictOf", inPlace := ["internal/reflectlite.ValueOf", "(internal/reflectlite.Value).Type", "(internal/reflectlite.Value).IsNil", "internal/reflectlite.TypeOf", "(internal/reflectlite.Value).Elem", "(internal/reflectlite.Value).Set"], unfollowed := true, recurses := true, named := ["io.EOF", "io.ErrUnexpectedEOF", "io.ErrShortBuffer", "loop.example/pub-inflation/pub/inflate.codeOrder", "errors.errorType"], apart := false, laid := [("errors.errorType", laid_errors_errorType), ("io.ErrShortBuffer", laid_io_ErrShortBuffer), ("io.EOF", laid_io_EOF), ("io.ErrUnexpectedEOF", laid_io_ErrUnexpectedEOF), ("loop.example/pub-inflation/pub/inflate.codeOrder", laid_loop_example_pub_inflation_pub_inflate_codeOrder)] }
def FnExactDictOfSaid : Prop := fnExactDictOfRow.holds Tryz.pinned (OpenSpec.ofChange fnExactDictOfSpec)

/-- ITS FALSE NEIGHBOUR: 'it returns false'. Refute it at one input. -/
def fnExactDictOfWrong : ChangeSpec := { name := "fnExactDictOf", vars := ["loop.example/pub-inflation/pub/inflate.codeOrder"], fn := fun _ => fun
  | [d, g1] => { results := [.lit (.bool false)], args := [d], vars := [g1] }
  | _ => none }
def FnExactDictOfWrongFalsely : Prop := fnExactDictOfRow.holds Tryz.pinned (OpenSpec.ofChange fnExactDictOfWrong)

/-- 'laws.FnExactDynamic': WHATEVER THE INPUT: true; the input reads as it did. -/
def fnExactDynamicSpec : ChangeSpec := { name := "fnExactDynamic", vars := ["loop.example/pub-inflation/pub/inflate.codeOrder"], fn := fun _ => fun
  | [d, g1] => { results := [.lit (.bool true)], args := [d], vars := [g1] }
  | _ => none }
def fnExactDynamicRow : OpenClaim := { program := "ytkpadembffdepaagreatdoor", sum := "33ade7576e5d27a5d72b26735098533fe985f0d4e0098794ea79df8bd814877d", func := "loop.example/pub-inflation/laws.FnExactDynamic", spec := "fnExactDynamic", inPlace := ["internal/reflectlite.ValueOf", "(internal/reflectlite.Value).Type", "(internal/reflectlite.Value).IsNil", "internal/reflectlite.TypeOf", "(internal/reflectlite.Value).Elem", "(internal/reflectlite.Value).Set"], unfollowed := true, recurses := true, named := ["io.EOF", "io.ErrUnexpectedEOF", "io.ErrShortBuffer", "loop.example/pub-inflation/pub/inflate.codeOrder", "errors.errorType"], apart := false, laid := [("errors.errorType", laid_errors_errorType), ("io.ErrShortBuffer", laid_io_ErrShortBuffer), ("io.EOF", laid_io_EOF), ("io.ErrUnexpectedEOF", laid_io_ErrUnexpectedEOF), ("loop.example/pub-inflation/pub/inflate.codeOrder", laid_loop_example_pub_inflation_pub_inflate_codeOrder)] }
def FnExactDynamicSaid : Prop := fnExactDynamicRow.holds Tryz.pinned (OpenSpec.ofChange fnExactDynamicSpec)

/-- ITS FALSE NEIGHBOUR: 'it returns false'. Refute it at one input. -/
def fnExactDynamicWrong : ChangeSpec := { name := "fnExactDynamic", vars := ["loop.example/pub-inflation/pub/inflate.codeOrder"], fn := fun _ => fun
  | [d, g1] => { results := [.lit (.bool false)], args := [d], vars := [g1] }
  | _ => none }
def FnExactDynamicWrongFalsely : Prop := fnExactDynamicRow.holds Tryz.pinned (OpenSpec.ofChange fnExactDynamicWrong)

/-- 'laws.FnExactFar': WHATEVER THE INPUT: true; the input reads as it did. -/
def fnExactFarSpec : ChangeSpec := { name := "fnExactFar", vars := ["loop.example/pub-inflation/pub/inflate.codeOrder"], fn := fun _ => fun
  | [d, g1] => { results := [.lit (.bool true)], args := [d], vars := [g1] }
  | _ => none }
def fnExactFarRow : OpenClaim := { program := "ytkpadembffdepaagreatdoor", sum := "33ade7576e5d27a5d72b26735098533fe985f0d4e0098794ea79df8bd814877d", func := "loop.example/pub-inflation/laws.FnExactFar", spec := "fnExactFar", inPlace := ["internal/reflectlite.ValueOf", "(internal/reflectlite.Value).Type", "(internal/reflectlite.Value).IsNil", "internal/reflectlite.TypeOf", "(internal/reflectlite.Value).Elem", "(internal/reflectlite.Value).Set"], unfollowed := true, recurses := true, named := ["io.EOF", "io.ErrUnexpectedEOF", "io.ErrShortBuffer", "loop.example/pub-inflation/pub/inflate.codeOrder", "errors.errorType"], apart := false, laid := [("errors.errorType", laid_errors_errorType), ("io.ErrShortBuffer", laid_io_ErrShortBuffer), ("io.EOF", laid_io_EOF), ("io.ErrUnexpectedEOF", laid_io_ErrUnexpectedEOF), ("loop.example/pub-inflation/pub/inflate.codeOrder", laid_loop_example_pub_inflation_pub_inflate_codeOrder)] }
def FnExactFarSaid : Prop := fnExactFarRow.holds Tryz.pinned (OpenSpec.ofChange fnExactFarSpec)

/-- ITS FALSE NEIGHBOUR: 'it returns false'. Refute it at one input. -/
def fnExactFarWrong : ChangeSpec := { name := "fnExactFar", vars := ["loop.example/pub-inflation/pub/inflate.codeOrder"], fn := fun _ => fun
  | [d, g1] => { results := [.lit (.bool false)], args := [d], vars := [g1] }
  | _ => none }
def FnExactFarWrongFalsely : Prop := fnExactFarRow.holds Tryz.pinned (OpenSpec.ofChange fnExactFarWrong)

/-- 'laws.FnExactFixed': WHATEVER THE INPUT: true; the input reads as it did. -/
def fnExactFixedSpec : ChangeSpec := { name := "fnExactFixed", vars := ["loop.example/pub-inflation/pub/inflate.codeOrder"], fn := fun _ => fun
  | [d, g1] => { results := [.lit (.bool true)], args := [d], vars := [g1] }
  | _ => none }
def fnExactFixedRow : OpenClaim := { program := "ytkpadembffdepaagreatdoor", sum := "33ade7576e5d27a5d72b26735098533fe985f0d4e0098794ea79df8bd814877d", func := "loop.example/pub-inflation/laws.FnExactFixed", spec := "fnExactFixed", inPlace := ["internal/reflectlite.ValueOf", "(internal/reflectlite.Value).Type", "(internal/reflectlite.Value).IsNil", "internal/reflectlite.TypeOf", "(internal/reflectlite.Value).Elem", "(internal/reflectlite.Value).Set"], unfollowed := true, recurses := true, named := ["io.EOF", "io.ErrUnexpectedEOF", "io.ErrShortBuffer", "loop.example/pub-inflation/pub/inflate.codeOrder", "errors.errorType"], apart := false, laid := [("errors.errorType", laid_errors_errorType), ("io.ErrShortBuffer", laid_io_ErrShortBuffer), ("io.EOF", laid_io_EOF), ("io.ErrUnexpectedEOF", laid_io_ErrUnexpectedEOF), ("loop.example/pub-inflation/pub/inflate.codeOrder", laid_loop_example_pub_inflation_pub_inflate_codeOrder)] }
def FnExactFixedSaid : Prop := fnExactFixedRow.holds Tryz.pinned (OpenSpec.ofChange fnExactFixedSpec)

/-- ITS FALSE NEIGHBOUR: 'it returns false'. Refute it at one input. -/
def fnExactFixedWrong : ChangeSpec := { name := "fnExactFixed", vars := ["loop.example/pub-inflation/pub/inflate.codeOrder"], fn := fun _ => fun
  | [d, g1] => { results := [.lit (.bool false)], args := [d], vars := [g1] }
  | _ => none }
def FnExactFixedWrongFalsely : Prop := fnExactFixedRow.holds Tryz.pinned (OpenSpec.ofChange fnExactFixedWrong)

/-- 'laws.FnExactMixed': WHATEVER THE INPUT: true; the input reads as it did. -/
def fnExactMixedSpec : ChangeSpec := { name := "fnExactMixed", vars := ["loop.example/pub-inflation/pub/inflate.codeOrder"], fn := fun _ => fun
  | [d, g1] => { results := [.lit (.bool true)], args := [d], vars := [g1] }
  | _ => none }
def fnExactMixedRow : OpenClaim := { program := "ytkpadembffdepaagreatdoor", sum := "33ade7576e5d27a5d72b26735098533fe985f0d4e0098794ea79df8bd814877d", func := "loop.example/pub-inflation/laws.FnExactMixed", spec := "fnExactMixed", inPlace := ["internal/reflectlite.ValueOf", "(internal/reflectlite.Value).Type", "(internal/reflectlite.Value).IsNil", "internal/reflectlite.TypeOf", "(internal/reflectlite.Value).Elem", "(internal/reflectlite.Value).Set"], unfollowed := true, recurses := true, named := ["io.EOF", "io.ErrUnexpectedEOF", "io.ErrShortBuffer", "loop.example/pub-inflation/pub/inflate.codeOrder", "errors.errorType"], apart := false, laid := [("errors.errorType", laid_errors_errorType), ("io.ErrShortBuffer", laid_io_ErrShortBuffer), ("io.EOF", laid_io_EOF), ("io.ErrUnexpectedEOF", laid_io_ErrUnexpectedEOF), ("loop.example/pub-inflation/pub/inflate.codeOrder", laid_loop_example_pub_inflation_pub_inflate_codeOrder)] }
def FnExactMixedSaid : Prop := fnExactMixedRow.holds Tryz.pinned (OpenSpec.ofChange fnExactMixedSpec)

/-- ITS FALSE NEIGHBOUR: 'it returns false'. Refute it at one input. -/
def fnExactMixedWrong : ChangeSpec := { name := "fnExactMixed", vars := ["loop.example/pub-inflation/pub/inflate.codeOrder"], fn := fun _ => fun
  | [d, g1] => { results := [.lit (.bool false)], args := [d], vars := [g1] }
  | _ => none }
def FnExactMixedWrongFalsely : Prop := fnExactMixedRow.holds Tryz.pinned (OpenSpec.ofChange fnExactMixedWrong)

/-- 'laws.FnExactSpare': WHATEVER THE INPUT: true; the input reads as it did. -/
def fnExactSpareSpec : ChangeSpec := { name := "fnExactSpare", vars := ["loop.example/pub-inflation/pub/inflate.codeOrder"], fn := fun _ => fun
  | [d, g1] => { results := [.lit (.bool true)], args := [d], vars := [g1] }
  | _ => none }
def fnExactSpareRow : OpenClaim := { program := "ytkpadembffdepaagreatdoor", sum := "33ade7576e5d27a5d72b26735098533fe985f0d4e0098794ea79df8bd814877d", func := "loop.example/pub-inflation/laws.FnExactSpare", spec := "fnExactSpare", inPlace := ["internal/reflectlite.ValueOf", "(internal/reflectlite.Value).Type", "(internal/reflectlite.Value).IsNil", "internal/reflectlite.TypeOf", "(internal/reflectlite.Value).Elem", "(internal/reflectlite.Value).Set"], unfollowed := true, recurses := true, named := ["io.EOF", "io.ErrUnexpectedEOF", "io.ErrShortBuffer", "loop.example/pub-inflation/pub/inflate.codeOrder", "errors.errorType"], apart := false, laid := [("errors.errorType", laid_errors_errorType), ("io.ErrShortBuffer", laid_io_ErrShortBuffer), ("io.EOF", laid_io_EOF), ("io.ErrUnexpectedEOF", laid_io_ErrUnexpectedEOF), ("loop.example/pub-inflation/pub/inflate.codeOrder", laid_loop_example_pub_inflation_pub_inflate_codeOrder)] }
def FnExactSpareSaid : Prop := fnExactSpareRow.holds Tryz.pinned (OpenSpec.ofChange fnExactSpareSpec)

/-- ITS FALSE NEIGHBOUR: 'it returns false'. Refute it at one input. -/
def fnExactSpareWrong : ChangeSpec := { name := "fnExactSpare", vars := ["loop.example/pub-inflation/pub/inflate.codeOrder"], fn := fun _ => fun
  | [d, g1] => { results := [.lit (.bool false)], args := [d], vars := [g1] }
  | _ => none }
def FnExactSpareWrongFalsely : Prop := fnExactSpareRow.holds Tryz.pinned (OpenSpec.ofChange fnExactSpareWrong)

/-- 'laws.FnExactStored': WHATEVER THE INPUT: true; the input reads as it did. -/
def fnExactStoredSpec : ChangeSpec := { name := "fnExactStored", vars := ["loop.example/pub-inflation/pub/inflate.codeOrder"], fn := fun _ => fun
  | [d, g1] => { results := [.lit (.bool true)], args := [d], vars := [g1] }
  | _ => none }
def fnExactStoredRow : OpenClaim := { program := "ytkpadembffdepaagreatdoor", sum := "33ade7576e5d27a5d72b26735098533fe985f0d4e0098794ea79df8bd814877d", func := "loop.example/pub-inflation/laws.FnExactStored", spec := "fnExactStored", inPlace := ["internal/reflectlite.ValueOf", "(internal/reflectlite.Value).Type", "(internal/reflectlite.Value).IsNil", "internal/reflectlite.TypeOf", "(internal/reflectlite.Value).Elem", "(internal/reflectlite.Value).Set"], unfollowed := true, recurses := true, named := ["io.EOF", "io.ErrUnexpectedEOF", "io.ErrShortBuffer", "loop.example/pub-inflation/pub/inflate.codeOrder", "errors.errorType"], apart := false, laid := [("errors.errorType", laid_errors_errorType), ("io.ErrShortBuffer", laid_io_ErrShortBuffer), ("io.EOF", laid_io_EOF), ("io.ErrUnexpectedEOF", laid_io_ErrUnexpectedEOF), ("loop.example/pub-inflation/pub/inflate.codeOrder", laid_loop_example_pub_inflation_pub_inflate_codeOrder)] }
def FnExactStoredSaid : Prop := fnExactStoredRow.holds Tryz.pinned (OpenSpec.ofChange fnExactStoredSpec)

/-- ITS FALSE NEIGHBOUR: 'it returns false'. Refute it at one input. -/
def fnExactStoredWrong : ChangeSpec := { name := "fnExactStored", vars := ["loop.example/pub-inflation/pub/inflate.codeOrder"], fn := fun _ => fun
  | [d, g1] => { results := [.lit (.bool false)], args := [d], vars := [g1] }
  | _ => none }
def FnExactStoredWrongFalsely : Prop := fnExactStoredRow.holds Tryz.pinned (OpenSpec.ofChange fnExactStoredWrong)

/-- 'laws.FnNever': WHATEVER THE INPUT: true; the input reads as it did. -/
def fnNeverSpec : ChangeSpec := { name := "fnNever", vars := ["loop.example/pub-inflation/pub/inflate.codeOrder"], fn := fun _ => fun
  | [d, g1] => { results := [.lit (.bool true)], args := [d], vars := [g1] }
  | _ => none }
def fnNeverRow : OpenClaim := { program := "ytkpadembffdepaagreatdoor", sum := "33ade7576e5d27a5d72b26735098533fe985f0d4e0098794ea79df8bd814877d", func := "loop.example/pub-inflation/laws.FnNever", spec := "fnNever", inPlace := ["internal/reflectlite.ValueOf", "(internal/reflectlite.Value).Type", "(internal/reflectlite.Value).IsNil", "internal/reflectlite.TypeOf", "(internal/reflectlite.Value).Elem", "(internal/reflectlite.Value).Set"], unfollowed := true, recurses := true, named := ["io.EOF", "io.ErrUnexpectedEOF", "io.ErrShortBuffer", "loop.example/pub-inflation/pub/inflate.codeOrder", "errors.errorType"], apart := false, laid := [("errors.errorType", laid_errors_errorType), ("io.ErrShortBuffer", laid_io_ErrShortBuffer), ("io.EOF", laid_io_EOF), ("io.ErrUnexpectedEOF", laid_io_ErrUnexpectedEOF), ("loop.example/pub-inflation/pub/inflate.codeOrder", laid_loop_example_pub_inflation_pub_inflate_codeOrder)] }
def FnNeverSaid : Prop := fnNeverRow.holds Tryz.pinned (OpenSpec.ofChange fnNeverSpec)

/-- ITS FALSE NEIGHBOUR: 'it returns false'. Refute it at one input. -/
def fnNeverWrong : ChangeSpec := { name := "fnNever", vars := ["loop.example/pub-inflation/pub/inflate.codeOrder"], fn := fun _ => fun
  | [d, g1] => { results := [.lit (.bool false)], args := [d], vars := [g1] }
  | _ => none }
def FnNeverWrongFalsely : Prop := fnNeverRow.holds Tryz.pinned (OpenSpec.ofChange fnNeverWrong)

/-- 'laws.FnNotLen': WHATEVER THE INPUT: true; the input reads as it did. -/
def fnNotLenSpec : ChangeSpec := { name := "fnNotLen", vars := ["loop.example/pub-inflation/pub/inflate.codeOrder"], fn := fun _ => fun
  | [d, g1] => { results := [.lit (.bool true)], args := [d], vars := [g1] }
  | _ => none }
def fnNotLenRow : OpenClaim := { program := "ytkpadembffdepaagreatdoor", sum := "33ade7576e5d27a5d72b26735098533fe985f0d4e0098794ea79df8bd814877d", func := "loop.example/pub-inflation/laws.FnNotLen", spec := "fnNotLen", inPlace := ["internal/reflectlite.ValueOf", "(internal/reflectlite.Value).Type", "(internal/reflectlite.Value).IsNil", "internal/reflectlite.TypeOf", "(internal/reflectlite.Value).Elem", "(internal/reflectlite.Value).Set"], unfollowed := true, recurses := true, named := ["io.EOF", "io.ErrUnexpectedEOF", "io.ErrShortBuffer", "loop.example/pub-inflation/pub/inflate.codeOrder", "errors.errorType"], apart := false, laid := [("errors.errorType", laid_errors_errorType), ("io.ErrShortBuffer", laid_io_ErrShortBuffer), ("io.EOF", laid_io_EOF), ("io.ErrUnexpectedEOF", laid_io_ErrUnexpectedEOF), ("loop.example/pub-inflation/pub/inflate.codeOrder", laid_loop_example_pub_inflation_pub_inflate_codeOrder)] }
def FnNotLenSaid : Prop := fnNotLenRow.holds Tryz.pinned (OpenSpec.ofChange fnNotLenSpec)

/-- ITS FALSE NEIGHBOUR: 'it returns false'. Refute it at one input. -/
def fnNotLenWrong : ChangeSpec := { name := "fnNotLen", vars := ["loop.example/pub-inflation/pub/inflate.codeOrder"], fn := fun _ => fun
  | [d, g1] => { results := [.lit (.bool false)], args := [d], vars := [g1] }
  | _ => none }
def FnNotLenWrongFalsely : Prop := fnNotLenRow.holds Tryz.pinned (OpenSpec.ofChange fnNotLenWrong)

/-- 'laws.FnOver': WHATEVER THE INPUT: true; the input reads as it did. -/
def fnOverSpec : ChangeSpec := { name := "fnOver", vars := ["loop.example/pub-inflation/pub/inflate.codeOrder"], fn := fun _ => fun
  | [d, g1] => { results := [.lit (.bool true)], args := [d], vars := [g1] }
  | _ => none }
def fnOverRow : OpenClaim := { program := "ytkpadembffdepaagreatdoor", sum := "33ade7576e5d27a5d72b26735098533fe985f0d4e0098794ea79df8bd814877d", func := "loop.example/pub-inflation/laws.FnOver", spec := "fnOver", inPlace := ["internal/reflectlite.ValueOf", "(internal/reflectlite.Value).Type", "(internal/reflectlite.Value).IsNil", "internal/reflectlite.TypeOf", "(internal/reflectlite.Value).Elem", "(internal/reflectlite.Value).Set"], unfollowed := true, recurses := true, named := ["io.EOF", "io.ErrUnexpectedEOF", "io.ErrShortBuffer", "loop.example/pub-inflation/pub/inflate.codeOrder", "errors.errorType"], apart := false, laid := [("errors.errorType", laid_errors_errorType), ("io.ErrShortBuffer", laid_io_ErrShortBuffer), ("io.EOF", laid_io_EOF), ("io.ErrUnexpectedEOF", laid_io_ErrUnexpectedEOF), ("loop.example/pub-inflation/pub/inflate.codeOrder", laid_loop_example_pub_inflation_pub_inflate_codeOrder)] }
def FnOverSaid : Prop := fnOverRow.holds Tryz.pinned (OpenSpec.ofChange fnOverSpec)

/-- ITS FALSE NEIGHBOUR: 'it returns false'. Refute it at one input. -/
def fnOverWrong : ChangeSpec := { name := "fnOver", vars := ["loop.example/pub-inflation/pub/inflate.codeOrder"], fn := fun _ => fun
  | [d, g1] => { results := [.lit (.bool false)], args := [d], vars := [g1] }
  | _ => none }
def FnOverWrongFalsely : Prop := fnOverRow.holds Tryz.pinned (OpenSpec.ofChange fnOverWrong)

/-- 'laws.FnTooFar': WHATEVER THE INPUT: true; the input reads as it did. -/
def fnTooFarSpec : ChangeSpec := { name := "fnTooFar", vars := ["loop.example/pub-inflation/pub/inflate.codeOrder"], fn := fun _ => fun
  | [d, g1] => { results := [.lit (.bool true)], args := [d], vars := [g1] }
  | _ => none }
def fnTooFarRow : OpenClaim := { program := "ytkpadembffdepaagreatdoor", sum := "33ade7576e5d27a5d72b26735098533fe985f0d4e0098794ea79df8bd814877d", func := "loop.example/pub-inflation/laws.FnTooFar", spec := "fnTooFar", inPlace := ["internal/reflectlite.ValueOf", "(internal/reflectlite.Value).Type", "(internal/reflectlite.Value).IsNil", "internal/reflectlite.TypeOf", "(internal/reflectlite.Value).Elem", "(internal/reflectlite.Value).Set"], unfollowed := true, recurses := true, named := ["io.EOF", "io.ErrUnexpectedEOF", "io.ErrShortBuffer", "loop.example/pub-inflation/pub/inflate.codeOrder", "errors.errorType"], apart := false, laid := [("errors.errorType", laid_errors_errorType), ("io.ErrShortBuffer", laid_io_ErrShortBuffer), ("io.EOF", laid_io_EOF), ("io.ErrUnexpectedEOF", laid_io_ErrUnexpectedEOF), ("loop.example/pub-inflation/pub/inflate.codeOrder", laid_loop_example_pub_inflation_pub_inflate_codeOrder)] }
def FnTooFarSaid : Prop := fnTooFarRow.holds Tryz.pinned (OpenSpec.ofChange fnTooFarSpec)

/-- ITS FALSE NEIGHBOUR: 'it returns false'. Refute it at one input. -/
def fnTooFarWrong : ChangeSpec := { name := "fnTooFar", vars := ["loop.example/pub-inflation/pub/inflate.codeOrder"], fn := fun _ => fun
  | [d, g1] => { results := [.lit (.bool false)], args := [d], vars := [g1] }
  | _ => none }
def FnTooFarWrongFalsely : Prop := fnTooFarRow.holds Tryz.pinned (OpenSpec.ofChange fnTooFarWrong)

/-- 'laws.FnTypeThree': WHATEVER THE INPUT: true; the input reads as it did. -/
def fnTypeThreeSpec : ChangeSpec := { name := "fnTypeThree", vars := ["loop.example/pub-inflation/pub/inflate.codeOrder"], fn := fun _ => fun
  | [d, g1] => { results := [.lit (.bool true)], args := [d], vars := [g1] }
  | _ => none }
def fnTypeThreeRow : OpenClaim := { program := "ytkpadembffdepaagreatdoor", sum := "33ade7576e5d27a5d72b26735098533fe985f0d4e0098794ea79df8bd814877d", func := "loop.example/pub-inflation/laws.FnTypeThree", spec := "fnTypeThree", inPlace := ["internal/reflectlite.ValueOf", "(internal/reflectlite.Value).Type", "(internal/reflectlite.Value).IsNil", "internal/reflectlite.TypeOf", "(internal/reflectlite.Value).Elem", "(internal/reflectlite.Value).Set"], unfollowed := true, recurses := true, named := ["io.EOF", "io.ErrUnexpectedEOF", "io.ErrShortBuffer", "loop.example/pub-inflation/pub/inflate.codeOrder", "errors.errorType"], apart := false, laid := [("errors.errorType", laid_errors_errorType), ("io.ErrShortBuffer", laid_io_ErrShortBuffer), ("io.EOF", laid_io_EOF), ("io.ErrUnexpectedEOF", laid_io_ErrUnexpectedEOF), ("loop.example/pub-inflation/pub/inflate.codeOrder", laid_loop_example_pub_inflation_pub_inflate_codeOrder)] }
def FnTypeThreeSaid : Prop := fnTypeThreeRow.holds Tryz.pinned (OpenSpec.ofChange fnTypeThreeSpec)

/-- ITS FALSE NEIGHBOUR: 'it returns false'. Refute it at one input. -/
def fnTypeThreeWrong : ChangeSpec := { name := "fnTypeThree", vars := ["loop.example/pub-inflation/pub/inflate.codeOrder"], fn := fun _ => fun
  | [d, g1] => { results := [.lit (.bool false)], args := [d], vars := [g1] }
  | _ => none }
def FnTypeThreeWrongFalsely : Prop := fnTypeThreeRow.holds Tryz.pinned (OpenSpec.ofChange fnTypeThreeWrong)

/- THE SECOND FORM. 'bulk': how many values and letters a reading holds, each counted each time it is reached (what is shared counts as often as it is met; a slice's spare places count too). A statement '..UptoSaid' is the law's where the arguments, and the package variables that the reading takes, are together of bulk at most 1048576: NARROWER than '..Said'. Prove '..Said' where nothing that the law and all that it calls make is longer than what came in: it says more and counts as full. Else prove '..UptoSaid'. A law counts once. -/
mutual
def uptoBulk {H : Type} : DataW H → Nat
  | .lit (.string bytes) => bytes.length + 1
  | .lit _ => 1
  | .nil => 1
  | .ptr d => uptoBulk d + 1
  | .slice elems spare => uptoBulkAll elems + uptoBulkAll spare + 1
  | .agg parts => uptoBulkAll parts + 1
  | .iface _ d => uptoBulk d + 1
  | .map entries => uptoBulkEntries entries + 1
  | .held _ => 1
def uptoBulkAll {H : Type} : List (DataW H) → Nat
  | [] => 0
  | d :: r => uptoBulk d + uptoBulkAll r
def uptoBulkEntries {H : Type} : List (Lit × DataW H) → Nat
  | [] => 0
  | x :: r => uptoBulkEntry x + uptoBulkEntries r
def uptoBulkEntry {H : Type} : Lit × DataW H → Nat
  | (.string bytes, d) => bytes.length + uptoBulk d + 1
  | (_, d) => uptoBulk d + 1
 end
def uptoSmall : (H : Type) → List (DataW H) → Bool := fun _ ds => decide (uptoBulkAll ds ≤ 1048576)
def OpenSpec.upto (s : _root_.Go.ChangeSpec) : _root_.Go.OpenSpec := { _root_.Go.OpenSpec.ofChange s with cond := some uptoSmall }

/-- 'laws.FnBadRun', WHERE WHAT IT READS IS OF BULK AT MOST 1048576: true; the input reads as it did. -/
def fnBadRunUptoRow : OpenClaim := { program := "ytkpadembffdepaagreatdoor", sum := "33ade7576e5d27a5d72b26735098533fe985f0d4e0098794ea79df8bd814877d", func := "loop.example/pub-inflation/laws.FnBadRun", spec := "fnBadRun", inPlace := ["internal/reflectlite.ValueOf", "(internal/reflectlite.Value).Type", "(internal/reflectlite.Value).IsNil", "internal/reflectlite.TypeOf", "(internal/reflectlite.Value).Elem", "(internal/reflectlite.Value).Set"], unfollowed := true, recurses := true, named := ["io.EOF", "io.ErrUnexpectedEOF", "io.ErrShortBuffer", "loop.example/pub-inflation/pub/inflate.codeOrder", "errors.errorType"], apart := false, laid := [("errors.errorType", laid_errors_errorType), ("io.ErrShortBuffer", laid_io_ErrShortBuffer), ("io.EOF", laid_io_EOF), ("io.ErrUnexpectedEOF", laid_io_ErrUnexpectedEOF), ("loop.example/pub-inflation/pub/inflate.codeOrder", laid_loop_example_pub_inflation_pub_inflate_codeOrder)], narrowed := true }
def FnBadRunUptoSaid : Prop := fnBadRunUptoRow.holds Tryz.pinned (OpenSpec.upto fnBadRunSpec)

/-- 'laws.FnExactDictOf', WHERE WHAT IT READS IS OF BULK AT MOST 1048576: true; the input reads as it did. -/
def fnExactDictOfUptoRow : OpenClaim := { program := "ytkpadembffdepaagreatdoor", sum := "33ade7576e5d27a5d72b26735098533fe985f0d4e0098794ea79df8bd814877d", func := "loop.example/pub-inflation/laws.FnExactDictOf", spec := "fnExactDictOf", inPlace := ["internal/reflectlite.ValueOf", "(internal/reflectlite.Value).Type", "(internal/reflectlite.Value).IsNil", "internal/reflectlite.TypeOf", "(internal/reflectlite.Value).Elem", "(internal/reflectlite.Value).Set"], unfollowed := true, recurses := true, named := ["io.EOF", "io.ErrUnexpectedEOF", "io.ErrShortBuffer", "loop.example/pub-inflation/pub/inflate.codeOrder", "errors.errorType"], apart := false, laid := [("errors.errorType", laid_errors_errorType), ("io.ErrShortBuffer", laid_io_ErrShortBuffer), ("io.EOF", laid_io_EOF), ("io.ErrUnexpectedEOF", laid_io_ErrUnexpectedEOF), ("loop.example/pub-inflation/pub/inflate.codeOrder", laid_loop_example_pub_inflation_pub_inflate_codeOrder)], narrowed := true }
def FnExactDictOfUptoSaid : Prop := fnExactDictOfUptoRow.holds Tryz.pinned (OpenSpec.upto fnExactDictOfSpec)

/-- 'laws.FnExactDynamic', WHERE WHAT IT READS IS OF BULK AT MOST 1048576: true; the input reads as it did. -/
def fnExactDynamicUptoRow : OpenClaim := { program := "ytkpadembffdepaagreatdoor", sum := "33ade7576e5d27a5d72b26735098533fe985f0d4e0098794ea79df8bd814877d", func := "loop.example/pub-inflation/laws.FnExactDynamic", spec := "fnExactDynamic", inPlace := ["internal/reflectlite.ValueOf", "(internal/reflectlite.Value).Type", "(internal/reflectlite.Value).IsNil", "internal/reflectlite.TypeOf", "(internal/reflectlite.Value).Elem", "(internal/reflectlite.Value).Set"], unfollowed := true, recurses := true, named := ["io.EOF", "io.ErrUnexpectedEOF", "io.ErrShortBuffer", "loop.example/pub-inflation/pub/inflate.codeOrder", "errors.errorType"], apart := false, laid := [("errors.errorType", laid_errors_errorType), ("io.ErrShortBuffer", laid_io_ErrShortBuffer), ("io.EOF", laid_io_EOF), ("io.ErrUnexpectedEOF", laid_io_ErrUnexpectedEOF), ("loop.example/pub-inflation/pub/inflate.codeOrder", laid_loop_example_pub_inflation_pub_inflate_codeOrder)], narrowed := true }
def FnExactDynamicUptoSaid : Prop := fnExactDynamicUptoRow.holds Tryz.pinned (OpenSpec.upto fnExactDynamicSpec)

/-- 'laws.FnExactFar', WHERE WHAT IT READS IS OF BULK AT MOST 1048576: true; the input reads as it did. -/
def fnExactFarUptoRow : OpenClaim := { program := "ytkpadembffdepaagreatdoor", sum := "33ade7576e5d27a5d72b26735098533fe985f0d4e0098794ea79df8bd814877d", func := "loop.example/pub-inflation/laws.FnExactFar", spec := "fnExactFar", inPlace := ["internal/reflectlite.ValueOf", "(internal/reflectlite.Value).Type", "(internal/reflectlite.Value).IsNil", "internal/reflectlite.TypeOf", "(internal/reflectlite.Value).Elem", "(internal/reflectlite.Value).Set"], unfollowed := true, recurses := true, named := ["io.EOF", "io.ErrUnexpectedEOF", "io.ErrShortBuffer", "loop.example/pub-inflation/pub/inflate.codeOrder", "errors.errorType"], apart := false, laid := [("errors.errorType", laid_errors_errorType), ("io.ErrShortBuffer", laid_io_ErrShortBuffer), ("io.EOF", laid_io_EOF), ("io.ErrUnexpectedEOF", laid_io_ErrUnexpectedEOF), ("loop.example/pub-inflation/pub/inflate.codeOrder", laid_loop_example_pub_inflation_pub_inflate_codeOrder)], narrowed := true }
def FnExactFarUptoSaid : Prop := fnExactFarUptoRow.holds Tryz.pinned (OpenSpec.upto fnExactFarSpec)

/-- 'laws.FnExactFixed', WHERE WHAT IT READS IS OF BULK AT MOST 1048576: true; the input reads as it did. -/
def fnExactFixedUptoRow : OpenClaim := { program := "ytkpadembffdepaagreatdoor", sum := "33ade7576e5d27a5d72b26735098533fe985f0d4e0098794ea79df8bd814877d", func := "loop.example/pub-inflation/laws.FnExactFixed", spec := "fnExactFixed", inPlace := ["internal/reflectlite.ValueOf", "(internal/reflectlite.Value).Type", "(internal/reflectlite.Value).IsNil", "internal/reflectlite.TypeOf", "(internal/reflectlite.Value).Elem", "(internal/reflectlite.Value).Set"], unfollowed := true, recurses := true, named := ["io.EOF", "io.ErrUnexpectedEOF", "io.ErrShortBuffer", "loop.example/pub-inflation/pub/inflate.codeOrder", "errors.errorType"], apart := false, laid := [("errors.errorType", laid_errors_errorType), ("io.ErrShortBuffer", laid_io_ErrShortBuffer), ("io.EOF", laid_io_EOF), ("io.ErrUnexpectedEOF", laid_io_ErrUnexpectedEOF), ("loop.example/pub-inflation/pub/inflate.codeOrder", laid_loop_example_pub_inflation_pub_inflate_codeOrder)], narrowed := true }
def FnExactFixedUptoSaid : Prop := fnExactFixedUptoRow.holds Tryz.pinned (OpenSpec.upto fnExactFixedSpec)

/-- 'laws.FnExactMixed', WHERE WHAT IT READS IS OF BULK AT MOST 1048576: true; the input reads as it did. -/
def fnExactMixedUptoRow : OpenClaim := { program := "ytkpadembffdepaagreatdoor", sum := "33ade7576e5d27a5d72b26735098533fe985f0d4e0098794ea79df8bd814877d", func := "loop.example/pub-inflation/laws.FnExactMixed", spec := "fnExactMixed", inPlace := ["internal/reflectlite.ValueOf", "(internal/reflectlite.Value).Type", "(internal/reflectlite.Value).IsNil", "internal/reflectlite.TypeOf", "(internal/reflectlite.Value).Elem", "(internal/reflectlite.Value).Set"], unfollowed := true, recurses := true, named := ["io.EOF", "io.ErrUnexpectedEOF", "io.ErrShortBuffer", "loop.example/pub-inflation/pub/inflate.codeOrder", "errors.errorType"], apart := false, laid := [("errors.errorType", laid_errors_errorType), ("io.ErrShortBuffer", laid_io_ErrShortBuffer), ("io.EOF", laid_io_EOF), ("io.ErrUnexpectedEOF", laid_io_ErrUnexpectedEOF), ("loop.example/pub-inflation/pub/inflate.codeOrder", laid_loop_example_pub_inflation_pub_inflate_codeOrder)], narrowed := true }
def FnExactMixedUptoSaid : Prop := fnExactMixedUptoRow.holds Tryz.pinned (OpenSpec.upto fnExactMixedSpec)

/-- 'laws.FnExactSpare', WHERE WHAT IT READS IS OF BULK AT MOST 1048576: true; the input reads as it did. -/
def fnExactSpareUptoRow : OpenClaim := { program := "ytkpadembffdepaagreatdoor", sum := "33ade7576e5d27a5d72b26735098533fe985f0d4e0098794ea79df8bd814877d", func := "loop.example/pub-inflation/laws.FnExactSpare", spec := "fnExactSpare", inPlace := ["internal/reflectlite.ValueOf", "(internal/reflectlite.Value).Type", "(internal/reflectlite.Value).IsNil", "internal/reflectlite.TypeOf", "(internal/reflectlite.Value).Elem", "(internal/reflectlite.Value).Set"], unfollowed := true, recurses := true, named := ["io.EOF", "io.ErrUnexpectedEOF", "io.ErrShortBuffer", "loop.example/pub-inflation/pub/inflate.codeOrder", "errors.errorType"], apart := false, laid := [("errors.errorType", laid_errors_errorType), ("io.ErrShortBuffer", laid_io_ErrShortBuffer), ("io.EOF", laid_io_EOF), ("io.ErrUnexpectedEOF", laid_io_ErrUnexpectedEOF), ("loop.example/pub-inflation/pub/inflate.codeOrder", laid_loop_example_pub_inflation_pub_inflate_codeOrder)], narrowed := true }
def FnExactSpareUptoSaid : Prop := fnExactSpareUptoRow.holds Tryz.pinned (OpenSpec.upto fnExactSpareSpec)

/-- 'laws.FnExactStored', WHERE WHAT IT READS IS OF BULK AT MOST 1048576: true; the input reads as it did. -/
def fnExactStoredUptoRow : OpenClaim := { program := "ytkpadembffdepaagreatdoor", sum := "33ade7576e5d27a5d72b26735098533fe985f0d4e0098794ea79df8bd814877d", func := "loop.example/pub-inflation/laws.FnExactStored", spec := "fnExactStored", inPlace := ["internal/reflectlite.ValueOf", "(internal/reflectlite.Value).Type", "(internal/reflectlite.Value).IsNil", "internal/reflectlite.TypeOf", "(internal/reflectlite.Value).Elem", "(internal/reflectlite.Value).Set"], unfollowed := true, recurses := true, named := ["io.EOF", "io.ErrUnexpectedEOF", "io.ErrShortBuffer", "loop.example/pub-inflation/pub/inflate.codeOrder", "errors.errorType"], apart := false, laid := [("errors.errorType", laid_errors_errorType), ("io.ErrShortBuffer", laid_io_ErrShortBuffer), ("io.EOF", laid_io_EOF), ("io.ErrUnexpectedEOF", laid_io_ErrUnexpectedEOF), ("loop.example/pub-inflation/pub/inflate.codeOrder", laid_loop_example_pub_inflation_pub_inflate_codeOrder)], narrowed := true }
def FnExactStoredUptoSaid : Prop := fnExactStoredUptoRow.holds Tryz.pinned (OpenSpec.upto fnExactStoredSpec)

/-- 'laws.FnNever', WHERE WHAT IT READS IS OF BULK AT MOST 1048576: true; the input reads as it did. -/
def fnNeverUptoRow : OpenClaim := { program := "ytkpadembffdepaagreatdoor", sum := "33ade7576e5d27a5d72b26735098533fe985f0d4e0098794ea79df8bd814877d", func := "loop.example/pub-inflation/laws.FnNever", spec := "fnNever", inPlace := ["internal/reflectlite.ValueOf", "(internal/reflectlite.Value).Type", "(internal/reflectlite.Value).IsNil", "internal/reflectlite.TypeOf", "(internal/reflectlite.Value).Elem", "(internal/reflectlite.Value).Set"], unfollowed := true, recurses := true, named := ["io.EOF", "io.ErrUnexpectedEOF", "io.ErrShortBuffer", "loop.example/pub-inflation/pub/inflate.codeOrder", "errors.errorType"], apart := false, laid := [("errors.errorType", laid_errors_errorType), ("io.ErrShortBuffer", laid_io_ErrShortBuffer), ("io.EOF", laid_io_EOF), ("io.ErrUnexpectedEOF", laid_io_ErrUnexpectedEOF), ("loop.example/pub-inflation/pub/inflate.codeOrder", laid_loop_example_pub_inflation_pub_inflate_codeOrder)], narrowed := true }
def FnNeverUptoSaid : Prop := fnNeverUptoRow.holds Tryz.pinned (OpenSpec.upto fnNeverSpec)

/-- 'laws.FnNotLen', WHERE WHAT IT READS IS OF BULK AT MOST 1048576: true; the input reads as it did. -/
def fnNotLenUptoRow : OpenClaim := { program := "ytkpadembffdepaagreatdoor", sum := "33ade7576e5d27a5d72b26735098533fe985f0d4e0098794ea79df8bd814877d", func := "loop.example/pub-inflation/laws.FnNotLen", spec := "fnNotLen", inPlace := ["internal/reflectlite.ValueOf", "(internal/reflectlite.Value).Type", "(internal/reflectlite.Value).IsNil", "internal/reflectlite.TypeOf", "(internal/reflectlite.Value).Elem", "(internal/reflectlite.Value).Set"], unfollowed := true, recurses := true, named := ["io.EOF", "io.ErrUnexpectedEOF", "io.ErrShortBuffer", "loop.example/pub-inflation/pub/inflate.codeOrder", "errors.errorType"], apart := false, laid := [("errors.errorType", laid_errors_errorType), ("io.ErrShortBuffer", laid_io_ErrShortBuffer), ("io.EOF", laid_io_EOF), ("io.ErrUnexpectedEOF", laid_io_ErrUnexpectedEOF), ("loop.example/pub-inflation/pub/inflate.codeOrder", laid_loop_example_pub_inflation_pub_inflate_codeOrder)], narrowed := true }
def FnNotLenUptoSaid : Prop := fnNotLenUptoRow.holds Tryz.pinned (OpenSpec.upto fnNotLenSpec)

/-- 'laws.FnOver', WHERE WHAT IT READS IS OF BULK AT MOST 1048576: true; the input reads as it did. -/
def fnOverUptoRow : OpenClaim := { program := "ytkpadembffdepaagreatdoor", sum := "33ade7576e5d27a5d72b26735098533fe985f0d4e0098794ea79df8bd814877d", func := "loop.example/pub-inflation/laws.FnOver", spec := "fnOver", inPlace := ["internal/reflectlite.ValueOf", "(internal/reflectlite.Value).Type", "(internal/reflectlite.Value).IsNil", "internal/reflectlite.TypeOf", "(internal/reflectlite.Value).Elem", "(internal/reflectlite.Value).Set"], unfollowed := true, recurses := true, named := ["io.EOF", "io.ErrUnexpectedEOF", "io.ErrShortBuffer", "loop.example/pub-inflation/pub/inflate.codeOrder", "errors.errorType"], apart := false, laid := [("errors.errorType", laid_errors_errorType), ("io.ErrShortBuffer", laid_io_ErrShortBuffer), ("io.EOF", laid_io_EOF), ("io.ErrUnexpectedEOF", laid_io_ErrUnexpectedEOF), ("loop.example/pub-inflation/pub/inflate.codeOrder", laid_loop_example_pub_inflation_pub_inflate_codeOrder)], narrowed := true }
def FnOverUptoSaid : Prop := fnOverUptoRow.holds Tryz.pinned (OpenSpec.upto fnOverSpec)

/-- 'laws.FnTooFar', WHERE WHAT IT READS IS OF BULK AT MOST 1048576: true; the input reads as it did. -/
def fnTooFarUptoRow : OpenClaim := { program := "ytkpadembffdepaagreatdoor", sum := "33ade7576e5d27a5d72b26735098533fe985f0d4e0098794ea79df8bd814877d", func := "loop.example/pub-inflation/laws.FnTooFar", spec := "fnTooFar", inPlace := ["internal/reflectlite.ValueOf", "(internal/reflectlite.Value).Type", "(internal/reflectlite.Value).IsNil", "internal/reflectlite.TypeOf", "(internal/reflectlite.Value).Elem", "(internal/reflectlite.Value).Set"], unfollowed := true, recurses := true, named := ["io.EOF", "io.ErrUnexpectedEOF", "io.ErrShortBuffer", "loop.example/pub-inflation/pub/inflate.codeOrder", "errors.errorType"], apart := false, laid := [("errors.errorType", laid_errors_errorType), ("io.ErrShortBuffer", laid_io_ErrShortBuffer), ("io.EOF", laid_io_EOF), ("io.ErrUnexpectedEOF", laid_io_ErrUnexpectedEOF), ("loop.example/pub-inflation/pub/inflate.codeOrder", laid_loop_example_pub_inflation_pub_inflate_codeOrder)], narrowed := true }
def FnTooFarUptoSaid : Prop := fnTooFarUptoRow.holds Tryz.pinned (OpenSpec.upto fnTooFarSpec)

/-- 'laws.FnTypeThree', WHERE WHAT IT READS IS OF BULK AT MOST 1048576: true; the input reads as it did. -/
def fnTypeThreeUptoRow : OpenClaim := { program := "ytkpadembffdepaagreatdoor", sum := "33ade7576e5d27a5d72b26735098533fe985f0d4e0098794ea79df8bd814877d", func := "loop.example/pub-inflation/laws.FnTypeThree", spec := "fnTypeThree", inPlace := ["internal/reflectlite.ValueOf", "(internal/reflectlite.Value).Type", "(internal/reflectlite.Value).IsNil", "internal/reflectlite.TypeOf", "(internal/reflectlite.Value).Elem", "(internal/reflectlite.Value).Set"], unfollowed := true, recurses := true, named := ["io.EOF", "io.ErrUnexpectedEOF", "io.ErrShortBuffer", "loop.example/pub-inflation/pub/inflate.codeOrder", "errors.errorType"], apart := false, laid := [("errors.errorType", laid_errors_errorType), ("io.ErrShortBuffer", laid_io_ErrShortBuffer), ("io.EOF", laid_io_EOF), ("io.ErrUnexpectedEOF", laid_io_ErrUnexpectedEOF), ("loop.example/pub-inflation/pub/inflate.codeOrder", laid_loop_example_pub_inflation_pub_inflate_codeOrder)], narrowed := true }
def FnTypeThreeUptoSaid : Prop := fnTypeThreeUptoRow.holds Tryz.pinned (OpenSpec.upto fnTypeThreeSpec)

end Rows
end Go.Proofs.YtkpadembffdepaaGreatDoor
