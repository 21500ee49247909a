/-
  NARROWER THAN 'FOR EVERY INPUT', by the rows' own cells (each row's printed sentence says how): FnSimplifyPoints: loops, laid · FnBytesReads: laid · FnBytesTurned: loops, laid · FnBytesCut: loops, laid · FnRectangleEmpty: loops, laid.
  DERIVED. THE GIVEN ROWS OF THIS SEAT. 5 by the template 'for every input the law returns true; each argument reads behind the call as it read before'; 0 by the template 'total and deterministic' (their statements: YtlpaecafpbbbkaaGreatDoorTotals.lean).
  GIVEN WITH THE SEED: the statements are not yours to turn. If you find one false, say at which input.
  Laid BY PROGRAM, IN A SANDBOX (cutbox-rows.mjs): the forced cells as the released guide's own fill.sh prints them over the translation e34596508f2738a4… (all of the seat's roots in one cut). By AI agents, Wed Nov 11 2026. No macro, syntax, notation, axiom, sorry.
-/
import Derived.Test.YtlpaecafpbbbkaaGreatDoorChecked
import GoSem.Claim
import GoSem.ClaimJoined
import GoSem.ClaimMapViews
import Derived.JoinedTies
import Derived.KernelRfl
namespace Go.Proofs.YtlpaecafpbbbkaaGreatDoor
/- THE CELL 'sum', in the pinned program and in every row, IS THE sha256 OF THE DUMP (.gsa) THAT YtlpaecafpbbbkaaGreatDoorProg.lean LOADS. Nothing in Lean hashes anything: it is a label: what it is worth is what the hold of that sum in a sandbox is worth. -/
noncomputable def Tryz.pinned : Pinned := { name := "ytlpaecafpbbbkaagreatdoor", sum := "e34596508f2738a4a6b8322420326c435e4d58a8ab88cd2d6a17774cfb6e4a24", checked := Tryz.checked }
namespace Rows
def none {H : Type} : Left H := { results := [], args := [] }

/- WHAT THE LISTED PACKAGE-LEVEL VARIABLES READ AS WHEN THE CALL BEGINS. Each datum BY PROGRAM (the guide's laid-datum.mjs) off the statement by which the dump's own 'gosem.cut.vars' lays the variable. In a bare row this is a premise. The card (YtlpaecafpbbbkaaGreatDoorCards.lean) ties it to the program's text. -/
def laid_pub_alidade_pub_simplefeatures_rtree_Stop {H : Type} : DataW H := .iface "*errors.errorString" (.ptr (.agg [.lit (.string [115, 116, 111, 112])]))

/-- 'laws.FnSimplifyPoints': WHATEVER THE INPUT: true; the input reads as it did. -/
def fnSimplifyPointsSpec : ChangeSpec := { name := "fnSimplifyPoints", fn := fun _ => fun
  | [d1, d2] => { results := [.lit (.bool true)], args := [d1, d2] }
  | _ => none }
def fnSimplifyPointsRow : OpenClaim := { program := "ytlpaecafpbbbkaagreatdoor", sum := "e34596508f2738a4a6b8322420326c435e4d58a8ab88cd2d6a17774cfb6e4a24", func := "pub-alidade/laws.FnSimplifyPoints", spec := "fnSimplifyPoints", inPlace := ["math.sqrt", "math.Float64bits", "math.Float64frombits", "internal/reflectlite.TypeOf", "internal/reflectlite.ValueOf", "internal/reflectlite.Swapper", "(internal/reflectlite.Value).Len"], unfollowed := true, recurses := true, named := ["pub-alidade/pub/simplefeatures/rtree.Stop"], loops := true, plainKeys := false, apart := false, laid := [("pub-alidade/pub/simplefeatures/rtree.Stop", laid_pub_alidade_pub_simplefeatures_rtree_Stop)] }
def FnSimplifyPointsSaid : Prop := fnSimplifyPointsRow.holds Tryz.pinned (OpenSpec.ofChange fnSimplifyPointsSpec)

/-- ITS FALSE NEIGHBOUR: 'it returns false'. Refute it at one input. -/
def fnSimplifyPointsWrong : ChangeSpec := { name := "fnSimplifyPoints", fn := fun _ => fun
  | [d1, d2] => { results := [.lit (.bool false)], args := [d1, d2] }
  | _ => none }
def FnSimplifyPointsWrongFalsely : Prop := fnSimplifyPointsRow.holds Tryz.pinned (OpenSpec.ofChange fnSimplifyPointsWrong)

/-- 'laws.FnBytesReads': WHATEVER THE INPUT: true; the input reads as it did. -/
def fnBytesReadsSpec : ChangeSpec := { name := "fnBytesReads", fn := fun _ => fun
  | [d] => { results := [.lit (.bool true)], args := [d] }
  | _ => none }
def fnBytesReadsRow : OpenClaim := { program := "ytlpaecafpbbbkaagreatdoor", sum := "e34596508f2738a4a6b8322420326c435e4d58a8ab88cd2d6a17774cfb6e4a24", func := "pub-alidade/laws.FnBytesReads", spec := "fnBytesReads", inPlace := ["math.Float64frombits", "math.Float64bits", "internal/reflectlite.TypeOf", "internal/reflectlite.ValueOf", "internal/reflectlite.Swapper", "(internal/reflectlite.Value).Len"], unfollowed := true, recurses := true, named := ["encoding/binary.BigEndian", "encoding/binary.LittleEndian", "pub-alidade/pub/simplefeatures/rtree.Stop"], plainKeys := false, apart := false, laid := [("pub-alidade/pub/simplefeatures/rtree.Stop", laid_pub_alidade_pub_simplefeatures_rtree_Stop)] }
def FnBytesReadsSaid : Prop := fnBytesReadsRow.holds Tryz.pinned (OpenSpec.ofChange fnBytesReadsSpec)

/-- ITS FALSE NEIGHBOUR: 'it returns false'. Refute it at one input. -/
def fnBytesReadsWrong : ChangeSpec := { name := "fnBytesReads", fn := fun _ => fun
  | [d] => { results := [.lit (.bool false)], args := [d] }
  | _ => none }
def FnBytesReadsWrongFalsely : Prop := fnBytesReadsRow.holds Tryz.pinned (OpenSpec.ofChange fnBytesReadsWrong)

/-- 'laws.FnBytesTurned': WHATEVER THE INPUT: true; the input reads as it did. -/
def fnBytesTurnedSpec : ChangeSpec := { name := "fnBytesTurned", fn := fun _ => fun
  | [d1, d2, d3] => { results := [.lit (.bool true)], args := [d1, d2, d3] }
  | _ => none }
def fnBytesTurnedRow : OpenClaim := { program := "ytlpaecafpbbbkaagreatdoor", sum := "e34596508f2738a4a6b8322420326c435e4d58a8ab88cd2d6a17774cfb6e4a24", func := "pub-alidade/laws.FnBytesTurned", spec := "fnBytesTurned", inPlace := ["math.Float64bits", "math.Float64frombits", "internal/reflectlite.TypeOf", "internal/reflectlite.ValueOf", "internal/reflectlite.Swapper", "(internal/reflectlite.Value).Len"], unfollowed := true, recurses := true, named := ["encoding/binary.BigEndian", "encoding/binary.LittleEndian", "pub-alidade/pub/simplefeatures/rtree.Stop"], loops := true, plainKeys := false, apart := false, laid := [("pub-alidade/pub/simplefeatures/rtree.Stop", laid_pub_alidade_pub_simplefeatures_rtree_Stop)] }
def FnBytesTurnedSaid : Prop := fnBytesTurnedRow.holds Tryz.pinned (OpenSpec.ofChange fnBytesTurnedSpec)

/-- ITS FALSE NEIGHBOUR: 'it returns false'. Refute it at one input. -/
def fnBytesTurnedWrong : ChangeSpec := { name := "fnBytesTurned", fn := fun _ => fun
  | [d1, d2, d3] => { results := [.lit (.bool false)], args := [d1, d2, d3] }
  | _ => none }
def FnBytesTurnedWrongFalsely : Prop := fnBytesTurnedRow.holds Tryz.pinned (OpenSpec.ofChange fnBytesTurnedWrong)

/-- 'laws.FnBytesCut': WHATEVER THE INPUT: true; the input reads as it did. -/
def fnBytesCutSpec : ChangeSpec := { name := "fnBytesCut", fn := fun _ => fun
  | [d1, d2] => { results := [.lit (.bool true)], args := [d1, d2] }
  | _ => none }
def fnBytesCutRow : OpenClaim := { program := "ytlpaecafpbbbkaagreatdoor", sum := "e34596508f2738a4a6b8322420326c435e4d58a8ab88cd2d6a17774cfb6e4a24", func := "pub-alidade/laws.FnBytesCut", spec := "fnBytesCut", inPlace := ["math.Float64bits", "math.Float64frombits", "internal/reflectlite.TypeOf", "internal/reflectlite.ValueOf", "internal/reflectlite.Swapper", "(internal/reflectlite.Value).Len"], unfollowed := true, recurses := true, named := ["encoding/binary.BigEndian", "encoding/binary.LittleEndian", "pub-alidade/pub/simplefeatures/rtree.Stop"], loops := true, plainKeys := false, apart := false, laid := [("pub-alidade/pub/simplefeatures/rtree.Stop", laid_pub_alidade_pub_simplefeatures_rtree_Stop)] }
def FnBytesCutSaid : Prop := fnBytesCutRow.holds Tryz.pinned (OpenSpec.ofChange fnBytesCutSpec)

/-- ITS FALSE NEIGHBOUR: 'it returns false'. Refute it at one input. -/
def fnBytesCutWrong : ChangeSpec := { name := "fnBytesCut", fn := fun _ => fun
  | [d1, d2] => { results := [.lit (.bool false)], args := [d1, d2] }
  | _ => none }
def FnBytesCutWrongFalsely : Prop := fnBytesCutRow.holds Tryz.pinned (OpenSpec.ofChange fnBytesCutWrong)

/-- 'laws.FnRectangleEmpty': WHATEVER THE INPUT: true; the input reads as it did. -/
def fnRectangleEmptySpec : ChangeSpec := { name := "fnRectangleEmpty", fn := fun _ => fun
  | [d1, d2] => { results := [.lit (.bool true)], args := [d1, d2] }
  | _ => none }
def fnRectangleEmptyRow : OpenClaim := { program := "ytlpaecafpbbbkaagreatdoor", sum := "e34596508f2738a4a6b8322420326c435e4d58a8ab88cd2d6a17774cfb6e4a24", func := "pub-alidade/laws.FnRectangleEmpty", spec := "fnRectangleEmpty", inPlace := ["internal/reflectlite.ValueOf", "internal/reflectlite.Swapper", "(internal/reflectlite.Value).Len", "math.Float64bits", "math.Float64frombits", "internal/reflectlite.TypeOf", "math.archMin"], unfollowed := true, recurses := true, named := ["pub-alidade/pub/simplefeatures/rtree.Stop"], loops := true, plainKeys := false, apart := false, laid := [("pub-alidade/pub/simplefeatures/rtree.Stop", laid_pub_alidade_pub_simplefeatures_rtree_Stop)] }
def FnRectangleEmptySaid : Prop := fnRectangleEmptyRow.holds Tryz.pinned (OpenSpec.ofChange fnRectangleEmptySpec)

/-- ITS FALSE NEIGHBOUR: 'it returns false'. Refute it at one input. -/
def fnRectangleEmptyWrong : ChangeSpec := { name := "fnRectangleEmpty", fn := fun _ => fun
  | [d1, d2] => { results := [.lit (.bool false)], args := [d1, d2] }
  | _ => none }
def FnRectangleEmptyWrongFalsely : Prop := fnRectangleEmptyRow.holds Tryz.pinned (OpenSpec.ofChange fnRectangleEmptyWrong)

/- THE SECOND FORM. 'bulk': how many values and letters a reading holds, each counted each time it is reached (what is shared counts as often as it is met; a slice's spare places count too). A statement '..UptoSaid' is the law's where the arguments, and the package variables that the reading takes, are together of bulk at most 1048576: NARROWER than '..Said'. Prove '..Said' where nothing that the law and all that it calls make is longer than what came in: it says more and counts as full. Else prove '..UptoSaid'. A law counts once. -/
mutual
def uptoBulk {H : Type} : DataW H → Nat
  | .lit (.string bytes) => bytes.length + 1
  | .lit _ => 1
  | .nil => 1
  | .ptr d => uptoBulk d + 1
  | .slice elems spare => uptoBulkAll elems + uptoBulkAll spare + 1
  | .agg parts => uptoBulkAll parts + 1
  | .iface _ d => uptoBulk d + 1
  | .map entries => uptoBulkEntries entries + 1
  | .held _ => 1
def uptoBulkAll {H : Type} : List (DataW H) → Nat
  | [] => 0
  | d :: r => uptoBulk d + uptoBulkAll r
def uptoBulkEntries {H : Type} : List (Lit × DataW H) → Nat
  | [] => 0
  | x :: r => uptoBulkEntry x + uptoBulkEntries r
def uptoBulkEntry {H : Type} : Lit × DataW H → Nat
  | (.string bytes, d) => bytes.length + uptoBulk d + 1
  | (_, d) => uptoBulk d + 1
 end
def uptoSmall : (H : Type) → List (DataW H) → Bool := fun _ ds => decide (uptoBulkAll ds ≤ 1048576)
def OpenSpec.upto (s : _root_.Go.ChangeSpec) : _root_.Go.OpenSpec := { _root_.Go.OpenSpec.ofChange s with cond := some uptoSmall }

/-- 'laws.FnSimplifyPoints', WHERE WHAT IT READS IS OF BULK AT MOST 1048576: true; the input reads as it did. -/
def fnSimplifyPointsUptoRow : OpenClaim := { program := "ytlpaecafpbbbkaagreatdoor", sum := "e34596508f2738a4a6b8322420326c435e4d58a8ab88cd2d6a17774cfb6e4a24", func := "pub-alidade/laws.FnSimplifyPoints", spec := "fnSimplifyPoints", inPlace := ["math.sqrt", "math.Float64bits", "math.Float64frombits", "internal/reflectlite.TypeOf", "internal/reflectlite.ValueOf", "internal/reflectlite.Swapper", "(internal/reflectlite.Value).Len"], unfollowed := true, recurses := true, named := ["pub-alidade/pub/simplefeatures/rtree.Stop"], loops := true, plainKeys := false, apart := false, laid := [("pub-alidade/pub/simplefeatures/rtree.Stop", laid_pub_alidade_pub_simplefeatures_rtree_Stop)], narrowed := true }
def FnSimplifyPointsUptoSaid : Prop := fnSimplifyPointsUptoRow.holds Tryz.pinned (OpenSpec.upto fnSimplifyPointsSpec)

/-- 'laws.FnBytesReads', WHERE WHAT IT READS IS OF BULK AT MOST 1048576: true; the input reads as it did. -/
def fnBytesReadsUptoRow : OpenClaim := { program := "ytlpaecafpbbbkaagreatdoor", sum := "e34596508f2738a4a6b8322420326c435e4d58a8ab88cd2d6a17774cfb6e4a24", func := "pub-alidade/laws.FnBytesReads", spec := "fnBytesReads", inPlace := ["math.Float64frombits", "math.Float64bits", "internal/reflectlite.TypeOf", "internal/reflectlite.ValueOf", "internal/reflectlite.Swapper", "(internal/reflectlite.Value).Len"], unfollowed := true, recurses := true, named := ["encoding/binary.BigEndian", "encoding/binary.LittleEndian", "pub-alidade/pub/simplefeatures/rtree.Stop"], plainKeys := false, apart := false, laid := [("pub-alidade/pub/simplefeatures/rtree.Stop", laid_pub_alidade_pub_simplefeatures_rtree_Stop)], narrowed := true }
def FnBytesReadsUptoSaid : Prop := fnBytesReadsUptoRow.holds Tryz.pinned (OpenSpec.upto fnBytesReadsSpec)

/-- 'laws.FnBytesTurned', WHERE WHAT IT READS IS OF BULK AT MOST 1048576: true; the input reads as it did. -/
def fnBytesTurnedUptoRow : OpenClaim := { program := "ytlpaecafpbbbkaagreatdoor", sum := "e34596508f2738a4a6b8322420326c435e4d58a8ab88cd2d6a17774cfb6e4a24", func := "pub-alidade/laws.FnBytesTurned", spec := "fnBytesTurned", inPlace := ["math.Float64bits", "math.Float64frombits", "internal/reflectlite.TypeOf", "internal/reflectlite.ValueOf", "internal/reflectlite.Swapper", "(internal/reflectlite.Value).Len"], unfollowed := true, recurses := true, named := ["encoding/binary.BigEndian", "encoding/binary.LittleEndian", "pub-alidade/pub/simplefeatures/rtree.Stop"], loops := true, plainKeys := false, apart := false, laid := [("pub-alidade/pub/simplefeatures/rtree.Stop", laid_pub_alidade_pub_simplefeatures_rtree_Stop)], narrowed := true }
def FnBytesTurnedUptoSaid : Prop := fnBytesTurnedUptoRow.holds Tryz.pinned (OpenSpec.upto fnBytesTurnedSpec)

/-- 'laws.FnBytesCut', WHERE WHAT IT READS IS OF BULK AT MOST 1048576: true; the input reads as it did. -/
def fnBytesCutUptoRow : OpenClaim := { program := "ytlpaecafpbbbkaagreatdoor", sum := "e34596508f2738a4a6b8322420326c435e4d58a8ab88cd2d6a17774cfb6e4a24", func := "pub-alidade/laws.FnBytesCut", spec := "fnBytesCut", inPlace := ["math.Float64bits", "math.Float64frombits", "internal/reflectlite.TypeOf", "internal/reflectlite.ValueOf", "internal/reflectlite.Swapper", "(internal/reflectlite.Value).Len"], unfollowed := true, recurses := true, named := ["encoding/binary.BigEndian", "encoding/binary.LittleEndian", "pub-alidade/pub/simplefeatures/rtree.Stop"], loops := true, plainKeys := false, apart := false, laid := [("pub-alidade/pub/simplefeatures/rtree.Stop", laid_pub_alidade_pub_simplefeatures_rtree_Stop)], narrowed := true }
def FnBytesCutUptoSaid : Prop := fnBytesCutUptoRow.holds Tryz.pinned (OpenSpec.upto fnBytesCutSpec)

/-- 'laws.FnRectangleEmpty', WHERE WHAT IT READS IS OF BULK AT MOST 1048576: true; the input reads as it did. -/
def fnRectangleEmptyUptoRow : OpenClaim := { program := "ytlpaecafpbbbkaagreatdoor", sum := "e34596508f2738a4a6b8322420326c435e4d58a8ab88cd2d6a17774cfb6e4a24", func := "pub-alidade/laws.FnRectangleEmpty", spec := "fnRectangleEmpty", inPlace := ["internal/reflectlite.ValueOf", "internal/reflectlite.Swapper", "(internal/reflectlite.Value).Len", "math.Float64bits", "math.Float64frombits", "internal/reflectlite.TypeOf", "math.archMin"], unfollowed := true, recurses := true, named := ["pub-alidade/pub/simplefeatures/rtree.Stop"], loops := true, plainKeys := false, apart := false, laid := [("pub-alidade/pub/simplefeatures/rtree.Stop", laid_pub_alidade_pub_simplefeatures_rtree_Stop)], narrowed := true }
def FnRectangleEmptyUptoSaid : Prop := fnRectangleEmptyUptoRow.holds Tryz.pinned (OpenSpec.upto fnRectangleEmptySpec)

end Rows
end Go.Proofs.YtlpaecafpbbbkaaGreatDoor
