/-
  NARROWER THAN 'FOR EVERY INPUT', by the rows' own cells (each row's printed sentence says how): FnAreaSplit: laid · FnHasAny: laid · FnHasMoved: laid · FnSegmentLeast: laid · FnAreaMoved: laid · FnCentroidAny: laid · FnLengthAny: laid · FnDistanceLine: laid.
  DERIVED. THE GIVEN ROWS OF THIS SEAT. 8 by the template 'for every input the law returns true; each argument reads behind the call as it read before'; 0 by the template 'total and deterministic' (their statements: YtpbhpplmokdkhaaDoorTotals.lean).
  GIVEN WITH THE SEED: the statements are not yours to turn. If you find one false, say at which input.
  Laid BY PROGRAM, IN A SANDBOX (cutbox-rows.mjs): the forced cells as the released guide's own fill.sh prints them over the translation 2c84e749b045acaa… (all of the seat's roots in one cut). By AI agents, Wed Nov 11 2026. No macro, syntax, notation, axiom, sorry.
-/
import Derived.Test.YtpbhpplmokdkhaaDoorChecked
import GoSem.Claim
import GoSem.ClaimJoined
import GoSem.ClaimMapViews
import Derived.JoinedTies
import Derived.KernelRfl
namespace Go.Proofs.YtpbhpplmokdkhaaDoor
/- THE CELL 'sum', in the pinned program and in every row, IS THE sha256 OF THE DUMP (.gsa) THAT YtpbhpplmokdkhaaDoorProg.lean LOADS. Nothing in Lean hashes anything: it is a label: what it is worth is what the hold of that sum in a sandbox is worth. -/
noncomputable def Tryd.pinned : Pinned := { name := "ytpbhpplmokdkhaadoor", sum := "2c84e749b045acaa0f1101cb1e552afefdf89d9a3c3dbfe9c8f315190f08244b", checked := Tryd.checked }
namespace Rows
def none {H : Type} : Left H := { results := [], args := [] }

/- WHAT THE LISTED PACKAGE-LEVEL VARIABLES READ AS WHEN THE CALL BEGINS. Each datum BY PROGRAM (the guide's laid-datum.mjs) off the statement by which the dump's own 'gosem.cut.vars' lays the variable. In a bare row this is a premise. The card (YtpbhpplmokdkhaaDoorCards.lean) ties it to the program's text. -/
def laid_loop_example_pub_g01495_pub_orb_emptyBound {H : Type} : DataW H := .agg [.agg [.lit (.float .f64 4607182418800017408), .lit (.float .f64 4607182418800017408)], .agg [.lit (.float .f64 13830554455654793216), .lit (.float .f64 13830554455654793216)]]

/-- 'laws.FnAreaSplit': WHATEVER THE INPUT: true; the input reads as it did. -/
def fnAreaSplitSpec : ChangeSpec := { name := "fnAreaSplit", vars := ["loop.example/pub-g01495/pub/orb.emptyBound"], fn := fun _ => fun
  | [d1, d2, d3, g1] => { results := [.lit (.bool true)], args := [d1, d2, d3], vars := [g1] }
  | _ => none }
def fnAreaSplitRow : OpenClaim := { program := "ytpbhpplmokdkhaadoor", sum := "2c84e749b045acaa0f1101cb1e552afefdf89d9a3c3dbfe9c8f315190f08244b", func := "loop.example/pub-g01495/laws.FnAreaSplit", spec := "fnAreaSplit", inPlace := ["math.archTrunc", "math.Float64bits", "math.Float64frombits", "math.sqrt", "math.archMin", "math.archMax"], unfollowed := true, recurses := true, named := ["loop.example/pub-g01495/pub/orb.emptyBound"], apart := false, laid := [("loop.example/pub-g01495/pub/orb.emptyBound", laid_loop_example_pub_g01495_pub_orb_emptyBound)] }
def FnAreaSplitSaid : Prop := fnAreaSplitRow.holds Tryd.pinned (OpenSpec.ofChange fnAreaSplitSpec)

/-- ITS FALSE NEIGHBOUR: 'it returns false'. Refute it at one input. -/
def fnAreaSplitWrong : ChangeSpec := { name := "fnAreaSplit", vars := ["loop.example/pub-g01495/pub/orb.emptyBound"], fn := fun _ => fun
  | [d1, d2, d3, g1] => { results := [.lit (.bool false)], args := [d1, d2, d3], vars := [g1] }
  | _ => none }
def FnAreaSplitWrongFalsely : Prop := fnAreaSplitRow.holds Tryd.pinned (OpenSpec.ofChange fnAreaSplitWrong)

/-- 'laws.FnHasAny': WHATEVER THE INPUT: true; the input reads as it did. -/
def fnHasAnySpec : ChangeSpec := { name := "fnHasAny", vars := ["loop.example/pub-g01495/pub/orb.emptyBound"], fn := fun _ => fun
  | [d1, d2, g1] => { results := [.lit (.bool true)], args := [d1, d2], vars := [g1] }
  | _ => none }
def fnHasAnyRow : OpenClaim := { program := "ytpbhpplmokdkhaadoor", sum := "2c84e749b045acaa0f1101cb1e552afefdf89d9a3c3dbfe9c8f315190f08244b", func := "loop.example/pub-g01495/laws.FnHasAny", spec := "fnHasAny", inPlace := ["math.archTrunc", "math.Float64bits", "math.Float64frombits", "math.sqrt", "math.archMin", "math.archMax"], unfollowed := true, recurses := true, named := ["loop.example/pub-g01495/pub/orb.emptyBound"], apart := false, laid := [("loop.example/pub-g01495/pub/orb.emptyBound", laid_loop_example_pub_g01495_pub_orb_emptyBound)] }
def FnHasAnySaid : Prop := fnHasAnyRow.holds Tryd.pinned (OpenSpec.ofChange fnHasAnySpec)

/-- ITS FALSE NEIGHBOUR: 'it returns false'. Refute it at one input. -/
def fnHasAnyWrong : ChangeSpec := { name := "fnHasAny", vars := ["loop.example/pub-g01495/pub/orb.emptyBound"], fn := fun _ => fun
  | [d1, d2, g1] => { results := [.lit (.bool false)], args := [d1, d2], vars := [g1] }
  | _ => none }
def FnHasAnyWrongFalsely : Prop := fnHasAnyRow.holds Tryd.pinned (OpenSpec.ofChange fnHasAnyWrong)

/-- 'laws.FnHasMoved': WHATEVER THE INPUT: true; the input reads as it did. -/
def fnHasMovedSpec : ChangeSpec := { name := "fnHasMoved", vars := ["loop.example/pub-g01495/pub/orb.emptyBound"], fn := fun _ => fun
  | [d1, d2, d3, d4, g1] => { results := [.lit (.bool true)], args := [d1, d2, d3, d4], vars := [g1] }
  | _ => none }
def fnHasMovedRow : OpenClaim := { program := "ytpbhpplmokdkhaadoor", sum := "2c84e749b045acaa0f1101cb1e552afefdf89d9a3c3dbfe9c8f315190f08244b", func := "loop.example/pub-g01495/laws.FnHasMoved", spec := "fnHasMoved", inPlace := ["math.archTrunc", "math.Float64bits", "math.Float64frombits", "math.sqrt", "math.archMin", "math.archMax"], unfollowed := true, recurses := true, named := ["loop.example/pub-g01495/pub/orb.emptyBound"], apart := false, laid := [("loop.example/pub-g01495/pub/orb.emptyBound", laid_loop_example_pub_g01495_pub_orb_emptyBound)] }
def FnHasMovedSaid : Prop := fnHasMovedRow.holds Tryd.pinned (OpenSpec.ofChange fnHasMovedSpec)

/-- ITS FALSE NEIGHBOUR: 'it returns false'. Refute it at one input. -/
def fnHasMovedWrong : ChangeSpec := { name := "fnHasMoved", vars := ["loop.example/pub-g01495/pub/orb.emptyBound"], fn := fun _ => fun
  | [d1, d2, d3, d4, g1] => { results := [.lit (.bool false)], args := [d1, d2, d3, d4], vars := [g1] }
  | _ => none }
def FnHasMovedWrongFalsely : Prop := fnHasMovedRow.holds Tryd.pinned (OpenSpec.ofChange fnHasMovedWrong)

/-- 'laws.FnSegmentLeast': WHATEVER THE INPUT: true; the input reads as it did. -/
def fnSegmentLeastSpec : ChangeSpec := { name := "fnSegmentLeast", vars := ["loop.example/pub-g01495/pub/orb.emptyBound"], fn := fun _ => fun
  | [d1, d2, d3, d4, g1] => { results := [.lit (.bool true)], args := [d1, d2, d3, d4], vars := [g1] }
  | _ => none }
def fnSegmentLeastRow : OpenClaim := { program := "ytpbhpplmokdkhaadoor", sum := "2c84e749b045acaa0f1101cb1e552afefdf89d9a3c3dbfe9c8f315190f08244b", func := "loop.example/pub-g01495/laws.FnSegmentLeast", spec := "fnSegmentLeast", inPlace := ["math.archTrunc", "math.Float64bits", "math.Float64frombits", "math.sqrt", "math.archMin", "math.archMax"], unfollowed := true, recurses := true, named := ["loop.example/pub-g01495/pub/orb.emptyBound"], apart := false, laid := [("loop.example/pub-g01495/pub/orb.emptyBound", laid_loop_example_pub_g01495_pub_orb_emptyBound)] }
def FnSegmentLeastSaid : Prop := fnSegmentLeastRow.holds Tryd.pinned (OpenSpec.ofChange fnSegmentLeastSpec)

/-- ITS FALSE NEIGHBOUR: 'it returns false'. Refute it at one input. -/
def fnSegmentLeastWrong : ChangeSpec := { name := "fnSegmentLeast", vars := ["loop.example/pub-g01495/pub/orb.emptyBound"], fn := fun _ => fun
  | [d1, d2, d3, d4, g1] => { results := [.lit (.bool false)], args := [d1, d2, d3, d4], vars := [g1] }
  | _ => none }
def FnSegmentLeastWrongFalsely : Prop := fnSegmentLeastRow.holds Tryd.pinned (OpenSpec.ofChange fnSegmentLeastWrong)

/-- 'laws.FnAreaMoved': WHATEVER THE INPUT: true; the input reads as it did. -/
def fnAreaMovedSpec : ChangeSpec := { name := "fnAreaMoved", vars := ["loop.example/pub-g01495/pub/orb.emptyBound"], fn := fun _ => fun
  | [d1, d2, d3, g1] => { results := [.lit (.bool true)], args := [d1, d2, d3], vars := [g1] }
  | _ => none }
def fnAreaMovedRow : OpenClaim := { program := "ytpbhpplmokdkhaadoor", sum := "2c84e749b045acaa0f1101cb1e552afefdf89d9a3c3dbfe9c8f315190f08244b", func := "loop.example/pub-g01495/laws.FnAreaMoved", spec := "fnAreaMoved", inPlace := ["math.archTrunc", "math.Float64bits", "math.Float64frombits", "math.sqrt", "math.archMin", "math.archMax"], unfollowed := true, recurses := true, named := ["loop.example/pub-g01495/pub/orb.emptyBound"], apart := false, laid := [("loop.example/pub-g01495/pub/orb.emptyBound", laid_loop_example_pub_g01495_pub_orb_emptyBound)] }
def FnAreaMovedSaid : Prop := fnAreaMovedRow.holds Tryd.pinned (OpenSpec.ofChange fnAreaMovedSpec)

/-- ITS FALSE NEIGHBOUR: 'it returns false'. Refute it at one input. -/
def fnAreaMovedWrong : ChangeSpec := { name := "fnAreaMoved", vars := ["loop.example/pub-g01495/pub/orb.emptyBound"], fn := fun _ => fun
  | [d1, d2, d3, g1] => { results := [.lit (.bool false)], args := [d1, d2, d3], vars := [g1] }
  | _ => none }
def FnAreaMovedWrongFalsely : Prop := fnAreaMovedRow.holds Tryd.pinned (OpenSpec.ofChange fnAreaMovedWrong)

/-- 'laws.FnCentroidAny': WHATEVER THE INPUT: true; the input reads as it did. -/
def fnCentroidAnySpec : ChangeSpec := { name := "fnCentroidAny", vars := ["loop.example/pub-g01495/pub/orb.emptyBound"], fn := fun _ => fun
  | [d, g1] => { results := [.lit (.bool true)], args := [d], vars := [g1] }
  | _ => none }
def fnCentroidAnyRow : OpenClaim := { program := "ytpbhpplmokdkhaadoor", sum := "2c84e749b045acaa0f1101cb1e552afefdf89d9a3c3dbfe9c8f315190f08244b", func := "loop.example/pub-g01495/laws.FnCentroidAny", spec := "fnCentroidAny", inPlace := ["math.archTrunc", "math.Float64bits", "math.Float64frombits", "math.archMin", "math.archMax", "math.sqrt"], unfollowed := true, recurses := true, named := ["loop.example/pub-g01495/pub/orb.emptyBound"], apart := false, laid := [("loop.example/pub-g01495/pub/orb.emptyBound", laid_loop_example_pub_g01495_pub_orb_emptyBound)] }
def FnCentroidAnySaid : Prop := fnCentroidAnyRow.holds Tryd.pinned (OpenSpec.ofChange fnCentroidAnySpec)

/-- ITS FALSE NEIGHBOUR: 'it returns false'. Refute it at one input. -/
def fnCentroidAnyWrong : ChangeSpec := { name := "fnCentroidAny", vars := ["loop.example/pub-g01495/pub/orb.emptyBound"], fn := fun _ => fun
  | [d, g1] => { results := [.lit (.bool false)], args := [d], vars := [g1] }
  | _ => none }
def FnCentroidAnyWrongFalsely : Prop := fnCentroidAnyRow.holds Tryd.pinned (OpenSpec.ofChange fnCentroidAnyWrong)

/-- 'laws.FnLengthAny': WHATEVER THE INPUT: true; the input reads as it did. -/
def fnLengthAnySpec : ChangeSpec := { name := "fnLengthAny", vars := ["loop.example/pub-g01495/pub/orb.emptyBound"], fn := fun _ => fun
  | [d1, d2, g1] => { results := [.lit (.bool true)], args := [d1, d2], vars := [g1] }
  | _ => none }
def fnLengthAnyRow : OpenClaim := { program := "ytpbhpplmokdkhaadoor", sum := "2c84e749b045acaa0f1101cb1e552afefdf89d9a3c3dbfe9c8f315190f08244b", func := "loop.example/pub-g01495/laws.FnLengthAny", spec := "fnLengthAny", inPlace := ["math.archTrunc", "math.Float64bits", "math.Float64frombits", "math.sqrt", "math.archMin", "math.archMax"], unfollowed := true, recurses := true, named := ["loop.example/pub-g01495/pub/orb.emptyBound"], apart := false, laid := [("loop.example/pub-g01495/pub/orb.emptyBound", laid_loop_example_pub_g01495_pub_orb_emptyBound)] }
def FnLengthAnySaid : Prop := fnLengthAnyRow.holds Tryd.pinned (OpenSpec.ofChange fnLengthAnySpec)

/-- ITS FALSE NEIGHBOUR: 'it returns false'. Refute it at one input. -/
def fnLengthAnyWrong : ChangeSpec := { name := "fnLengthAny", vars := ["loop.example/pub-g01495/pub/orb.emptyBound"], fn := fun _ => fun
  | [d1, d2, g1] => { results := [.lit (.bool false)], args := [d1, d2], vars := [g1] }
  | _ => none }
def FnLengthAnyWrongFalsely : Prop := fnLengthAnyRow.holds Tryd.pinned (OpenSpec.ofChange fnLengthAnyWrong)

/-- 'laws.FnDistanceLine': WHATEVER THE INPUT: true; the input reads as it did. -/
def fnDistanceLineSpec : ChangeSpec := { name := "fnDistanceLine", vars := ["loop.example/pub-g01495/pub/orb.emptyBound"], fn := fun _ => fun
  | [d1, d2, g1] => { results := [.lit (.bool true)], args := [d1, d2], vars := [g1] }
  | _ => none }
def fnDistanceLineRow : OpenClaim := { program := "ytpbhpplmokdkhaadoor", sum := "2c84e749b045acaa0f1101cb1e552afefdf89d9a3c3dbfe9c8f315190f08244b", func := "loop.example/pub-g01495/laws.FnDistanceLine", spec := "fnDistanceLine", inPlace := ["math.archTrunc", "math.Float64bits", "math.Float64frombits", "math.sqrt", "math.archMin", "math.archMax"], unfollowed := true, recurses := true, named := ["loop.example/pub-g01495/pub/orb.emptyBound"], apart := false, laid := [("loop.example/pub-g01495/pub/orb.emptyBound", laid_loop_example_pub_g01495_pub_orb_emptyBound)] }
def FnDistanceLineSaid : Prop := fnDistanceLineRow.holds Tryd.pinned (OpenSpec.ofChange fnDistanceLineSpec)

/-- ITS FALSE NEIGHBOUR: 'it returns false'. Refute it at one input. -/
def fnDistanceLineWrong : ChangeSpec := { name := "fnDistanceLine", vars := ["loop.example/pub-g01495/pub/orb.emptyBound"], fn := fun _ => fun
  | [d1, d2, g1] => { results := [.lit (.bool false)], args := [d1, d2], vars := [g1] }
  | _ => none }
def FnDistanceLineWrongFalsely : Prop := fnDistanceLineRow.holds Tryd.pinned (OpenSpec.ofChange fnDistanceLineWrong)

/- THE SECOND FORM. 'bulk': how many values and letters a reading holds, each counted each time it is reached (what is shared counts as often as it is met; a slice's spare places count too). A statement '..UptoSaid' is the law's where the arguments, and the package variables that the reading takes, are together of bulk at most 1048576: NARROWER than '..Said'. Prove '..Said' where nothing that the law and all that it calls make is longer than what came in: it says more and counts as full. Else prove '..UptoSaid'. A law counts once. -/
mutual
def uptoBulk {H : Type} : DataW H → Nat
  | .lit (.string bytes) => bytes.length + 1
  | .lit _ => 1
  | .nil => 1
  | .ptr d => uptoBulk d + 1
  | .slice elems spare => uptoBulkAll elems + uptoBulkAll spare + 1
  | .agg parts => uptoBulkAll parts + 1
  | .iface _ d => uptoBulk d + 1
  | .map entries => uptoBulkEntries entries + 1
  | .held _ => 1
def uptoBulkAll {H : Type} : List (DataW H) → Nat
  | [] => 0
  | d :: r => uptoBulk d + uptoBulkAll r
def uptoBulkEntries {H : Type} : List (Lit × DataW H) → Nat
  | [] => 0
  | x :: r => uptoBulkEntry x + uptoBulkEntries r
def uptoBulkEntry {H : Type} : Lit × DataW H → Nat
  | (.string bytes, d) => bytes.length + uptoBulk d + 1
  | (_, d) => uptoBulk d + 1
 end
def uptoSmall : (H : Type) → List (DataW H) → Bool := fun _ ds => decide (uptoBulkAll ds ≤ 1048576)
def OpenSpec.upto (s : _root_.Go.ChangeSpec) : _root_.Go.OpenSpec := { _root_.Go.OpenSpec.ofChange s with cond := some uptoSmall }

/-- 'laws.FnAreaSplit', WHERE WHAT IT READS IS OF BULK AT MOST 1048576: true; the input reads as it did. -/
def fnAreaSplitUptoRow : OpenClaim := { program := "ytpbhpplmokdkhaadoor", sum := "2c84e749b045acaa0f1101cb1e552afefdf89d9a3c3dbfe9c8f315190f08244b", func := "loop.example/pub-g01495/laws.FnAreaSplit", spec := "fnAreaSplit", inPlace := ["math.archTrunc", "math.Float64bits", "math.Float64frombits", "math.sqrt", "math.archMin", "math.archMax"], unfollowed := true, recurses := true, named := ["loop.example/pub-g01495/pub/orb.emptyBound"], apart := false, laid := [("loop.example/pub-g01495/pub/orb.emptyBound", laid_loop_example_pub_g01495_pub_orb_emptyBound)], narrowed := true }
def FnAreaSplitUptoSaid : Prop := fnAreaSplitUptoRow.holds Tryd.pinned (OpenSpec.upto fnAreaSplitSpec)

/-- 'laws.FnHasAny', WHERE WHAT IT READS IS OF BULK AT MOST 1048576: true; the input reads as it did. -/
def fnHasAnyUptoRow : OpenClaim := { program := "ytpbhpplmokdkhaadoor", sum := "2c84e749b045acaa0f1101cb1e552afefdf89d9a3c3dbfe9c8f315190f08244b", func := "loop.example/pub-g01495/laws.FnHasAny", spec := "fnHasAny", inPlace := ["math.archTrunc", "math.Float64bits", "math.Float64frombits", "math.sqrt", "math.archMin", "math.archMax"], unfollowed := true, recurses := true, named := ["loop.example/pub-g01495/pub/orb.emptyBound"], apart := false, laid := [("loop.example/pub-g01495/pub/orb.emptyBound", laid_loop_example_pub_g01495_pub_orb_emptyBound)], narrowed := true }
def FnHasAnyUptoSaid : Prop := fnHasAnyUptoRow.holds Tryd.pinned (OpenSpec.upto fnHasAnySpec)

/-- 'laws.FnHasMoved', WHERE WHAT IT READS IS OF BULK AT MOST 1048576: true; the input reads as it did. -/
def fnHasMovedUptoRow : OpenClaim := { program := "ytpbhpplmokdkhaadoor", sum := "2c84e749b045acaa0f1101cb1e552afefdf89d9a3c3dbfe9c8f315190f08244b", func := "loop.example/pub-g01495/laws.FnHasMoved", spec := "fnHasMoved", inPlace := ["math.archTrunc", "math.Float64bits", "math.Float64frombits", "math.sqrt", "math.archMin", "math.archMax"], unfollowed := true, recurses := true, named := ["loop.example/pub-g01495/pub/orb.emptyBound"], apart := false, laid := [("loop.example/pub-g01495/pub/orb.emptyBound", laid_loop_example_pub_g01495_pub_orb_emptyBound)], narrowed := true }
def FnHasMovedUptoSaid : Prop := fnHasMovedUptoRow.holds Tryd.pinned (OpenSpec.upto fnHasMovedSpec)

/-- 'laws.FnSegmentLeast', WHERE WHAT IT READS IS OF BULK AT MOST 1048576: true; the input reads as it did. -/
def fnSegmentLeastUptoRow : OpenClaim := { program := "ytpbhpplmokdkhaadoor", sum := "2c84e749b045acaa0f1101cb1e552afefdf89d9a3c3dbfe9c8f315190f08244b", func := "loop.example/pub-g01495/laws.FnSegmentLeast", spec := "fnSegmentLeast", inPlace := ["math.archTrunc", "math.Float64bits", "math.Float64frombits", "math.sqrt", "math.archMin", "math.archMax"], unfollowed := true, recurses := true, named := ["loop.example/pub-g01495/pub/orb.emptyBound"], apart := false, laid := [("loop.example/pub-g01495/pub/orb.emptyBound", laid_loop_example_pub_g01495_pub_orb_emptyBound)], narrowed := true }
def FnSegmentLeastUptoSaid : Prop := fnSegmentLeastUptoRow.holds Tryd.pinned (OpenSpec.upto fnSegmentLeastSpec)

/-- 'laws.FnAreaMoved', WHERE WHAT IT READS IS OF BULK AT MOST 1048576: true; the input reads as it did. -/
def fnAreaMovedUptoRow : OpenClaim := { program := "ytpbhpplmokdkhaadoor", sum := "2c84e749b045acaa0f1101cb1e552afefdf89d9a3c3dbfe9c8f315190f08244b", func := "loop.example/pub-g01495/laws.FnAreaMoved", spec := "fnAreaMoved", inPlace := ["math.archTrunc", "math.Float64bits", "math.Float64frombits", "math.sqrt", "math.archMin", "math.archMax"], unfollowed := true, recurses := true, named := ["loop.example/pub-g01495/pub/orb.emptyBound"], apart := false, laid := [("loop.example/pub-g01495/pub/orb.emptyBound", laid_loop_example_pub_g01495_pub_orb_emptyBound)], narrowed := true }
def FnAreaMovedUptoSaid : Prop := fnAreaMovedUptoRow.holds Tryd.pinned (OpenSpec.upto fnAreaMovedSpec)

/-- 'laws.FnCentroidAny', WHERE WHAT IT READS IS OF BULK AT MOST 1048576: true; the input reads as it did. -/
def fnCentroidAnyUptoRow : OpenClaim := { program := "ytpbhpplmokdkhaadoor", sum := "2c84e749b045acaa0f1101cb1e552afefdf89d9a3c3dbfe9c8f315190f08244b", func := "loop.example/pub-g01495/laws.FnCentroidAny", spec := "fnCentroidAny", inPlace := ["math.archTrunc", "math.Float64bits", "math.Float64frombits", "math.archMin", "math.archMax", "math.sqrt"], unfollowed := true, recurses := true, named := ["loop.example/pub-g01495/pub/orb.emptyBound"], apart := false, laid := [("loop.example/pub-g01495/pub/orb.emptyBound", laid_loop_example_pub_g01495_pub_orb_emptyBound)], narrowed := true }
def FnCentroidAnyUptoSaid : Prop := fnCentroidAnyUptoRow.holds Tryd.pinned (OpenSpec.upto fnCentroidAnySpec)

/-- 'laws.FnLengthAny', WHERE WHAT IT READS IS OF BULK AT MOST 1048576: true; the input reads as it did. -/
def fnLengthAnyUptoRow : OpenClaim := { program := "ytpbhpplmokdkhaadoor", sum := "2c84e749b045acaa0f1101cb1e552afefdf89d9a3c3dbfe9c8f315190f08244b", func := "loop.example/pub-g01495/laws.FnLengthAny", spec := "fnLengthAny", inPlace := ["math.archTrunc", "math.Float64bits", "math.Float64frombits", "math.sqrt", "math.archMin", "math.archMax"], unfollowed := true, recurses := true, named := ["loop.example/pub-g01495/pub/orb.emptyBound"], apart := false, laid := [("loop.example/pub-g01495/pub/orb.emptyBound", laid_loop_example_pub_g01495_pub_orb_emptyBound)], narrowed := true }
def FnLengthAnyUptoSaid : Prop := fnLengthAnyUptoRow.holds Tryd.pinned (OpenSpec.upto fnLengthAnySpec)

/-- 'laws.FnDistanceLine', WHERE WHAT IT READS IS OF BULK AT MOST 1048576: true; the input reads as it did. -/
def fnDistanceLineUptoRow : OpenClaim := { program := "ytpbhpplmokdkhaadoor", sum := "2c84e749b045acaa0f1101cb1e552afefdf89d9a3c3dbfe9c8f315190f08244b", func := "loop.example/pub-g01495/laws.FnDistanceLine", spec := "fnDistanceLine", inPlace := ["math.archTrunc", "math.Float64bits", "math.Float64frombits", "math.sqrt", "math.archMin", "math.archMax"], unfollowed := true, recurses := true, named := ["loop.example/pub-g01495/pub/orb.emptyBound"], apart := false, laid := [("loop.example/pub-g01495/pub/orb.emptyBound", laid_loop_example_pub_g01495_pub_orb_emptyBound)], narrowed := true }
def FnDistanceLineUptoSaid : Prop := fnDistanceLineUptoRow.holds Tryd.pinned (OpenSpec.upto fnDistanceLineSpec)

end Rows
end Go.Proofs.YtpbhpplmokdkhaaDoor
