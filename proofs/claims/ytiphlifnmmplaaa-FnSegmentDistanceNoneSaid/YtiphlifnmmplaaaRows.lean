/-
  No cell of these rows narrows 'for every input' (looked for: loops, veiled, ifaces, maps, wideKeys, modest, calm, conditions, laid).
  DERIVED. THE GIVEN ROWS OF THIS SEAT. 9 by the template 'for every input the law returns true; each argument reads behind the call as it read before'; 0 by the template 'total and deterministic' (their statements: YtiphlifnmmplaaaTotals.lean).
  GIVEN WITH THE SEED: the statements are not yours to turn. If you find one false, say at which input.
  Laid BY PROGRAM, IN A SANDBOX (cutbox-rows.mjs): the forced cells as the released guide's own fill.sh prints them over the translation eecddecb1f79aafb… (all of the seat's roots in one cut). By AI agents, Wed Nov 11 2026. No macro, syntax, notation, axiom, sorry.
-/
import Derived.Test.YtiphlifnmmplaaaChecked
import GoSem.Claim
import GoSem.ClaimJoined
import GoSem.ClaimMapViews
import Derived.JoinedTies
import Derived.KernelRfl
namespace Go.Proofs.Ytiphlifnmmplaaa
/- THE CELL 'sum', in the pinned program and in every row, IS THE sha256 OF THE DUMP (.gsa) THAT YtiphlifnmmplaaaProg.lean LOADS. Nothing in Lean hashes anything: it is a label: what it is worth is what the hold of that sum in a sandbox is worth. -/
noncomputable def Try.pinned : Pinned := { name := "ytiphlifnmmplaaa", sum := "eecddecb1f79aafb04b6d65f0b5446a4837de76940f906b368dce2ece61090e1", checked := Try.checked }
namespace Rows
def none {H : Type} : Left H := { results := [], args := [] }

/-- 'laws.FnTriangleTurned': WHATEVER THE INPUT: true; the input reads as it did. -/
def fnTriangleTurnedSpec : ChangeSpec := { name := "fnTriangleTurned", fn := fun _ => fun
  | [d1, d2, d3] => { results := [.lit (.bool true)], args := [d1, d2, d3] }
  | _ => none }
def fnTriangleTurnedRow : OpenClaim := { program := "ytiphlifnmmplaaa", sum := "eecddecb1f79aafb04b6d65f0b5446a4837de76940f906b368dce2ece61090e1", func := "pub-alidade/laws.FnTriangleTurned", spec := "fnTriangleTurned", recurses := true, plainKeys := false, apart := false }
def FnTriangleTurnedSaid : Prop := fnTriangleTurnedRow.holds Try.pinned (OpenSpec.ofChange fnTriangleTurnedSpec)

/-- ITS FALSE NEIGHBOUR: 'it returns false'. Refute it at one input. -/
def fnTriangleTurnedWrong : ChangeSpec := { name := "fnTriangleTurned", fn := fun _ => fun
  | [d1, d2, d3] => { results := [.lit (.bool false)], args := [d1, d2, d3] }
  | _ => none }
def FnTriangleTurnedWrongFalsely : Prop := fnTriangleTurnedRow.holds Try.pinned (OpenSpec.ofChange fnTriangleTurnedWrong)

/-- 'laws.FnXYDot': WHATEVER THE INPUT: true; the input reads as it did. -/
def fnXYDotSpec : ChangeSpec := { name := "fnXYDot", fn := fun _ => fun
  | [d1, d2] => { results := [.lit (.bool true)], args := [d1, d2] }
  | _ => none }
def fnXYDotRow : OpenClaim := { program := "ytiphlifnmmplaaa", sum := "eecddecb1f79aafb04b6d65f0b5446a4837de76940f906b368dce2ece61090e1", func := "pub-alidade/laws.FnXYDot", spec := "fnXYDot", inPlace := ["math.archTrunc", "math.Float64bits", "math.Float64frombits"], plainKeys := false, apart := false }
def FnXYDotSaid : Prop := fnXYDotRow.holds Try.pinned (OpenSpec.ofChange fnXYDotSpec)

/-- ITS FALSE NEIGHBOUR: 'it returns false'. Refute it at one input. -/
def fnXYDotWrong : ChangeSpec := { name := "fnXYDot", fn := fun _ => fun
  | [d1, d2] => { results := [.lit (.bool false)], args := [d1, d2] }
  | _ => none }
def FnXYDotWrongFalsely : Prop := fnXYDotRow.holds Try.pinned (OpenSpec.ofChange fnXYDotWrong)

/-- 'laws.FnPermutationMore': WHATEVER THE INPUT: true; the input reads as it did. -/
def fnPermutationMoreSpec : ChangeSpec := { name := "fnPermutationMore", fn := fun _ => fun
  | [d1, d2, d3] => { results := [.lit (.bool true)], args := [d1, d2, d3] }
  | _ => none }
def fnPermutationMoreRow : OpenClaim := { program := "ytiphlifnmmplaaa", sum := "eecddecb1f79aafb04b6d65f0b5446a4837de76940f906b368dce2ece61090e1", func := "pub-alidade/laws.FnPermutationMore", spec := "fnPermutationMore", unfollowed := true, recurses := true, plainKeys := false, apart := false }
def FnPermutationMoreSaid : Prop := fnPermutationMoreRow.holds Try.pinned (OpenSpec.ofChange fnPermutationMoreSpec)

/-- ITS FALSE NEIGHBOUR: 'it returns false'. Refute it at one input. -/
def fnPermutationMoreWrong : ChangeSpec := { name := "fnPermutationMore", fn := fun _ => fun
  | [d1, d2, d3] => { results := [.lit (.bool false)], args := [d1, d2, d3] }
  | _ => none }
def FnPermutationMoreWrongFalsely : Prop := fnPermutationMoreRow.holds Try.pinned (OpenSpec.ofChange fnPermutationMoreWrong)

/-- 'laws.FnBoxJoin': WHATEVER THE INPUT: true; the input reads as it did. -/
def fnBoxJoinSpec : ChangeSpec := { name := "fnBoxJoin", fn := fun _ => fun
  | [d1, d2] => { results := [.lit (.bool true)], args := [d1, d2] }
  | _ => none }
def fnBoxJoinRow : OpenClaim := { program := "ytiphlifnmmplaaa", sum := "eecddecb1f79aafb04b6d65f0b5446a4837de76940f906b368dce2ece61090e1", func := "pub-alidade/laws.FnBoxJoin", spec := "fnBoxJoin", inPlace := ["math.Float64bits", "math.Float64frombits"], plainKeys := false, apart := false }
def FnBoxJoinSaid : Prop := fnBoxJoinRow.holds Try.pinned (OpenSpec.ofChange fnBoxJoinSpec)

/-- ITS FALSE NEIGHBOUR: 'it returns false'. Refute it at one input. -/
def fnBoxJoinWrong : ChangeSpec := { name := "fnBoxJoin", fn := fun _ => fun
  | [d1, d2] => { results := [.lit (.bool false)], args := [d1, d2] }
  | _ => none }
def FnBoxJoinWrongFalsely : Prop := fnBoxJoinRow.holds Try.pinned (OpenSpec.ofChange fnBoxJoinWrong)

/-- 'laws.FnEnvCovers': WHATEVER THE INPUT: true; the input reads as it did. -/
def fnEnvCoversSpec : ChangeSpec := { name := "fnEnvCovers", fn := fun _ => fun
  | [d1, d2] => { results := [.lit (.bool true)], args := [d1, d2] }
  | _ => none }
def fnEnvCoversRow : OpenClaim := { program := "ytiphlifnmmplaaa", sum := "eecddecb1f79aafb04b6d65f0b5446a4837de76940f906b368dce2ece61090e1", func := "pub-alidade/laws.FnEnvCovers", spec := "fnEnvCovers", inPlace := ["math.Float64bits", "math.Float64frombits"], plainKeys := false, apart := false }
def FnEnvCoversSaid : Prop := fnEnvCoversRow.holds Try.pinned (OpenSpec.ofChange fnEnvCoversSpec)

/-- ITS FALSE NEIGHBOUR: 'it returns false'. Refute it at one input. -/
def fnEnvCoversWrong : ChangeSpec := { name := "fnEnvCovers", fn := fun _ => fun
  | [d1, d2] => { results := [.lit (.bool false)], args := [d1, d2] }
  | _ => none }
def FnEnvCoversWrongFalsely : Prop := fnEnvCoversRow.holds Try.pinned (OpenSpec.ofChange fnEnvCoversWrong)

/-- 'laws.FnOnSegment': WHATEVER THE INPUT: true; the input reads as it did. -/
def fnOnSegmentSpec : ChangeSpec := { name := "fnOnSegment", fn := fun _ => fun
  | [d1, d2, d3] => { results := [.lit (.bool true)], args := [d1, d2, d3] }
  | _ => none }
def fnOnSegmentRow : OpenClaim := { program := "ytiphlifnmmplaaa", sum := "eecddecb1f79aafb04b6d65f0b5446a4837de76940f906b368dce2ece61090e1", func := "pub-alidade/laws.FnOnSegment", spec := "fnOnSegment", inPlace := ["math.Float64bits", "math.Float64frombits"], recurses := true, plainKeys := false, apart := false }
def FnOnSegmentSaid : Prop := fnOnSegmentRow.holds Try.pinned (OpenSpec.ofChange fnOnSegmentSpec)

/-- ITS FALSE NEIGHBOUR: 'it returns false'. Refute it at one input. -/
def fnOnSegmentWrong : ChangeSpec := { name := "fnOnSegment", fn := fun _ => fun
  | [d1, d2, d3] => { results := [.lit (.bool false)], args := [d1, d2, d3] }
  | _ => none }
def FnOnSegmentWrongFalsely : Prop := fnOnSegmentRow.holds Try.pinned (OpenSpec.ofChange fnOnSegmentWrong)

/-- 'laws.FnReadCode': WHATEVER THE INPUT: true; the input reads as it did. -/
def fnReadCodeSpec : ChangeSpec := { name := "fnReadCode", fn := fun _ => fun
  | [d] => { results := [.lit (.bool true)], args := [d] }
  | _ => none }
def fnReadCodeRow : OpenClaim := { program := "ytiphlifnmmplaaa", sum := "eecddecb1f79aafb04b6d65f0b5446a4837de76940f906b368dce2ece61090e1", func := "pub-alidade/laws.FnReadCode", spec := "fnReadCode", named := ["encoding/binary.BigEndian", "encoding/binary.LittleEndian"], plainKeys := false, apart := false }
def FnReadCodeSaid : Prop := fnReadCodeRow.holds Try.pinned (OpenSpec.ofChange fnReadCodeSpec)

/-- ITS FALSE NEIGHBOUR: 'it returns false'. Refute it at one input. -/
def fnReadCodeWrong : ChangeSpec := { name := "fnReadCode", fn := fun _ => fun
  | [d] => { results := [.lit (.bool false)], args := [d] }
  | _ => none }
def FnReadCodeWrongFalsely : Prop := fnReadCodeRow.holds Try.pinned (OpenSpec.ofChange fnReadCodeWrong)

/-- 'laws.FnSegmentDistanceNone': WHATEVER THE INPUT: true; the input reads as it did. -/
def fnSegmentDistanceNoneSpec : ChangeSpec := { name := "fnSegmentDistanceNone", fn := fun _ => fun
  | [d1, d2, d3] => { results := [.lit (.bool true)], args := [d1, d2, d3] }
  | _ => none }
def fnSegmentDistanceNoneRow : OpenClaim := { program := "ytiphlifnmmplaaa", sum := "eecddecb1f79aafb04b6d65f0b5446a4837de76940f906b368dce2ece61090e1", func := "pub-alidade/laws.FnSegmentDistanceNone", spec := "fnSegmentDistanceNone", inPlace := ["math.sqrt"], recurses := true, plainKeys := false, apart := false }
def FnSegmentDistanceNoneSaid : Prop := fnSegmentDistanceNoneRow.holds Try.pinned (OpenSpec.ofChange fnSegmentDistanceNoneSpec)

/-- ITS FALSE NEIGHBOUR: 'it returns false'. Refute it at one input. -/
def fnSegmentDistanceNoneWrong : ChangeSpec := { name := "fnSegmentDistanceNone", fn := fun _ => fun
  | [d1, d2, d3] => { results := [.lit (.bool false)], args := [d1, d2, d3] }
  | _ => none }
def FnSegmentDistanceNoneWrongFalsely : Prop := fnSegmentDistanceNoneRow.holds Try.pinned (OpenSpec.ofChange fnSegmentDistanceNoneWrong)

/-- 'laws.FnNodesApart': WHATEVER THE INPUT: true; the input reads as it did. -/
def fnNodesApartSpec : ChangeSpec := { name := "fnNodesApart", fn := fun _ => fun
  | [d1, d2] => { results := [.lit (.bool true)], args := [d1, d2] }
  | _ => none }
def fnNodesApartRow : OpenClaim := { program := "ytiphlifnmmplaaa", sum := "eecddecb1f79aafb04b6d65f0b5446a4837de76940f906b368dce2ece61090e1", func := "pub-alidade/laws.FnNodesApart", spec := "fnNodesApart", inPlace := ["math.archFloor", "math.Float64bits", "math.Float64frombits", "math.archTrunc"], recurses := true, plainKeys := false, apart := false }
def FnNodesApartSaid : Prop := fnNodesApartRow.holds Try.pinned (OpenSpec.ofChange fnNodesApartSpec)

/-- ITS FALSE NEIGHBOUR: 'it returns false'. Refute it at one input. -/
def fnNodesApartWrong : ChangeSpec := { name := "fnNodesApart", fn := fun _ => fun
  | [d1, d2] => { results := [.lit (.bool false)], args := [d1, d2] }
  | _ => none }
def FnNodesApartWrongFalsely : Prop := fnNodesApartRow.holds Try.pinned (OpenSpec.ofChange fnNodesApartWrong)

/- THE SECOND FORM. 'bulk': how many values and letters a reading holds, each counted each time it is reached (what is shared counts as often as it is met; a slice's spare places count too). A statement '..UptoSaid' is the law's where the arguments, and the package variables that the reading takes, are together of bulk at most 1048576: NARROWER than '..Said'. Prove '..Said' where nothing that the law and all that it calls make is longer than what came in: it says more and counts as full. Else prove '..UptoSaid'. A law counts once. -/
mutual
def uptoBulk {H : Type} : DataW H → Nat
  | .lit (.string bytes) => bytes.length + 1
  | .lit _ => 1
  | .nil => 1
  | .ptr d => uptoBulk d + 1
  | .slice elems spare => uptoBulkAll elems + uptoBulkAll spare + 1
  | .agg parts => uptoBulkAll parts + 1
  | .iface _ d => uptoBulk d + 1
  | .map entries => uptoBulkEntries entries + 1
  | .held _ => 1
def uptoBulkAll {H : Type} : List (DataW H) → Nat
  | [] => 0
  | d :: r => uptoBulk d + uptoBulkAll r
def uptoBulkEntries {H : Type} : List (Lit × DataW H) → Nat
  | [] => 0
  | x :: r => uptoBulkEntry x + uptoBulkEntries r
def uptoBulkEntry {H : Type} : Lit × DataW H → Nat
  | (.string bytes, d) => bytes.length + uptoBulk d + 1
  | (_, d) => uptoBulk d + 1
 end
def uptoSmall : (H : Type) → List (DataW H) → Bool := fun _ ds => decide (uptoBulkAll ds ≤ 1048576)
def OpenSpec.upto (s : _root_.Go.ChangeSpec) : _root_.Go.OpenSpec := { _root_.Go.OpenSpec.ofChange s with cond := some uptoSmall }

/-- 'laws.FnTriangleTurned', WHERE WHAT IT READS IS OF BULK AT MOST 1048576: true; the input reads as it did. -/
def fnTriangleTurnedUptoRow : OpenClaim := { program := "ytiphlifnmmplaaa", sum := "eecddecb1f79aafb04b6d65f0b5446a4837de76940f906b368dce2ece61090e1", func := "pub-alidade/laws.FnTriangleTurned", spec := "fnTriangleTurned", recurses := true, plainKeys := false, apart := false, narrowed := true }
def FnTriangleTurnedUptoSaid : Prop := fnTriangleTurnedUptoRow.holds Try.pinned (OpenSpec.upto fnTriangleTurnedSpec)

/-- 'laws.FnXYDot', WHERE WHAT IT READS IS OF BULK AT MOST 1048576: true; the input reads as it did. -/
def fnXYDotUptoRow : OpenClaim := { program := "ytiphlifnmmplaaa", sum := "eecddecb1f79aafb04b6d65f0b5446a4837de76940f906b368dce2ece61090e1", func := "pub-alidade/laws.FnXYDot", spec := "fnXYDot", inPlace := ["math.archTrunc", "math.Float64bits", "math.Float64frombits"], plainKeys := false, apart := false, narrowed := true }
def FnXYDotUptoSaid : Prop := fnXYDotUptoRow.holds Try.pinned (OpenSpec.upto fnXYDotSpec)

/-- 'laws.FnPermutationMore', WHERE WHAT IT READS IS OF BULK AT MOST 1048576: true; the input reads as it did. -/
def fnPermutationMoreUptoRow : OpenClaim := { program := "ytiphlifnmmplaaa", sum := "eecddecb1f79aafb04b6d65f0b5446a4837de76940f906b368dce2ece61090e1", func := "pub-alidade/laws.FnPermutationMore", spec := "fnPermutationMore", unfollowed := true, recurses := true, plainKeys := false, apart := false, narrowed := true }
def FnPermutationMoreUptoSaid : Prop := fnPermutationMoreUptoRow.holds Try.pinned (OpenSpec.upto fnPermutationMoreSpec)

/-- 'laws.FnBoxJoin', WHERE WHAT IT READS IS OF BULK AT MOST 1048576: true; the input reads as it did. -/
def fnBoxJoinUptoRow : OpenClaim := { program := "ytiphlifnmmplaaa", sum := "eecddecb1f79aafb04b6d65f0b5446a4837de76940f906b368dce2ece61090e1", func := "pub-alidade/laws.FnBoxJoin", spec := "fnBoxJoin", inPlace := ["math.Float64bits", "math.Float64frombits"], plainKeys := false, apart := false, narrowed := true }
def FnBoxJoinUptoSaid : Prop := fnBoxJoinUptoRow.holds Try.pinned (OpenSpec.upto fnBoxJoinSpec)

/-- 'laws.FnEnvCovers', WHERE WHAT IT READS IS OF BULK AT MOST 1048576: true; the input reads as it did. -/
def fnEnvCoversUptoRow : OpenClaim := { program := "ytiphlifnmmplaaa", sum := "eecddecb1f79aafb04b6d65f0b5446a4837de76940f906b368dce2ece61090e1", func := "pub-alidade/laws.FnEnvCovers", spec := "fnEnvCovers", inPlace := ["math.Float64bits", "math.Float64frombits"], plainKeys := false, apart := false, narrowed := true }
def FnEnvCoversUptoSaid : Prop := fnEnvCoversUptoRow.holds Try.pinned (OpenSpec.upto fnEnvCoversSpec)

/-- 'laws.FnOnSegment', WHERE WHAT IT READS IS OF BULK AT MOST 1048576: true; the input reads as it did. -/
def fnOnSegmentUptoRow : OpenClaim := { program := "ytiphlifnmmplaaa", sum := "eecddecb1f79aafb04b6d65f0b5446a4837de76940f906b368dce2ece61090e1", func := "pub-alidade/laws.FnOnSegment", spec := "fnOnSegment", inPlace := ["math.Float64bits", "math.Float64frombits"], recurses := true, plainKeys := false, apart := false, narrowed := true }
def FnOnSegmentUptoSaid : Prop := fnOnSegmentUptoRow.holds Try.pinned (OpenSpec.upto fnOnSegmentSpec)

/-- 'laws.FnReadCode', WHERE WHAT IT READS IS OF BULK AT MOST 1048576: true; the input reads as it did. -/
def fnReadCodeUptoRow : OpenClaim := { program := "ytiphlifnmmplaaa", sum := "eecddecb1f79aafb04b6d65f0b5446a4837de76940f906b368dce2ece61090e1", func := "pub-alidade/laws.FnReadCode", spec := "fnReadCode", named := ["encoding/binary.BigEndian", "encoding/binary.LittleEndian"], plainKeys := false, apart := false, narrowed := true }
def FnReadCodeUptoSaid : Prop := fnReadCodeUptoRow.holds Try.pinned (OpenSpec.upto fnReadCodeSpec)

/-- 'laws.FnSegmentDistanceNone', WHERE WHAT IT READS IS OF BULK AT MOST 1048576: true; the input reads as it did. -/
def fnSegmentDistanceNoneUptoRow : OpenClaim := { program := "ytiphlifnmmplaaa", sum := "eecddecb1f79aafb04b6d65f0b5446a4837de76940f906b368dce2ece61090e1", func := "pub-alidade/laws.FnSegmentDistanceNone", spec := "fnSegmentDistanceNone", inPlace := ["math.sqrt"], recurses := true, plainKeys := false, apart := false, narrowed := true }
def FnSegmentDistanceNoneUptoSaid : Prop := fnSegmentDistanceNoneUptoRow.holds Try.pinned (OpenSpec.upto fnSegmentDistanceNoneSpec)

/-- 'laws.FnNodesApart', WHERE WHAT IT READS IS OF BULK AT MOST 1048576: true; the input reads as it did. -/
def fnNodesApartUptoRow : OpenClaim := { program := "ytiphlifnmmplaaa", sum := "eecddecb1f79aafb04b6d65f0b5446a4837de76940f906b368dce2ece61090e1", func := "pub-alidade/laws.FnNodesApart", spec := "fnNodesApart", inPlace := ["math.archFloor", "math.Float64bits", "math.Float64frombits", "math.archTrunc"], recurses := true, plainKeys := false, apart := false, narrowed := true }
def FnNodesApartUptoSaid : Prop := fnNodesApartUptoRow.holds Try.pinned (OpenSpec.upto fnNodesApartSpec)

end Rows
end Go.Proofs.Ytiphlifnmmplaaa
