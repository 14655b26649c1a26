/-
  No cell of these rows narrows 'for every input' (looked for: loops, veiled, ifaces, maps, wideKeys, modest, calm, conditions, laid).
  DERIVED. THE GIVEN ROWS OF THIS SEAT. 13 by the template 'for every input the law returns true; each argument reads behind the call as it read before'; 0 by the template 'total and deterministic' (their statements: YtfhkmkhcofodmaaGreatTotals.lean).
  GIVEN WITH THE SEED: the statements are not yours to turn. If you find one false, say at which input.
  Laid BY PROGRAM, IN A SANDBOX (cutbox-rows.mjs): the forced cells as the released guide's own fill.sh prints them over the translation 01ef9524c4fcb944… (all of the seat's roots in one cut). By AI agents, Wed Nov 11 2026. No macro, syntax, notation, axiom, sorry.
-/
import Derived.Test.YtfhkmkhcofodmaaGreatChecked
import GoSem.Claim
import GoSem.ClaimJoined
import GoSem.ClaimMapViews
import Derived.JoinedTies
import Derived.KernelRfl
namespace Go.Proofs.YtfhkmkhcofodmaaGreat
/- THE CELL 'sum', in the pinned program and in every row, IS THE sha256 OF THE DUMP (.gsa) THAT YtfhkmkhcofodmaaGreatProg.lean LOADS. Nothing in Lean hashes anything: it is a label: what it is worth is what the hold of that sum in a sandbox is worth. -/
noncomputable def Tryz.pinned : Pinned := { name := "ytfhkmkhcofodmaagreat", sum := "01ef9524c4fcb944974476f9cba1bf85bb0d5c2741c2c0edbf1128cef589e3e5", checked := Tryz.checked }
namespace Rows
def none {H : Type} : Left H := { results := [], args := [] }

/-- 'laws.FnGeoShape': WHATEVER THE INPUT: true; the input reads as it did. -/
def fnGeoShapeSpec : ChangeSpec := { name := "fnGeoShape", fn := fun _ => fun
  | [d1, d2, d3, d4] => { results := [.lit (.bool true)], args := [d1, d2, d3, d4] }
  | _ => none }
def fnGeoShapeRow : OpenClaim := { program := "ytfhkmkhcofodmaagreat", sum := "01ef9524c4fcb944974476f9cba1bf85bb0d5c2741c2c0edbf1128cef589e3e5", func := "pub-panorama/laws.FnGeoShape", spec := "fnGeoShape", inPlace := ["math.Float64frombits", "math.Float64bits"], unfollowed := true, recurses := true, named := ["encoding/binary.LittleEndian"], apart := false }
def FnGeoShapeSaid : Prop := fnGeoShapeRow.holds Tryz.pinned (OpenSpec.ofChange fnGeoShapeSpec)

/-- ITS FALSE NEIGHBOUR: 'it returns false'. Refute it at one input. -/
def fnGeoShapeWrong : ChangeSpec := { name := "fnGeoShape", fn := fun _ => fun
  | [d1, d2, d3, d4] => { results := [.lit (.bool false)], args := [d1, d2, d3, d4] }
  | _ => none }
def FnGeoShapeWrongFalsely : Prop := fnGeoShapeRow.holds Tryz.pinned (OpenSpec.ofChange fnGeoShapeWrong)

/-- 'laws.FnGeoSearch': WHATEVER THE INPUT: true; the input reads as it did. -/
def fnGeoSearchSpec : ChangeSpec := { name := "fnGeoSearch", fn := fun _ => fun
  | [d] => { results := [.lit (.bool true)], args := [d] }
  | _ => none }
def fnGeoSearchRow : OpenClaim := { program := "ytfhkmkhcofodmaagreat", sum := "01ef9524c4fcb944974476f9cba1bf85bb0d5c2741c2c0edbf1128cef589e3e5", func := "pub-panorama/laws.FnGeoSearch", spec := "fnGeoSearch", inPlace := ["math.Float64frombits", "math.Float64bits"], unfollowed := true, recurses := true, named := ["encoding/binary.LittleEndian"], apart := false }
def FnGeoSearchSaid : Prop := fnGeoSearchRow.holds Tryz.pinned (OpenSpec.ofChange fnGeoSearchSpec)

/-- ITS FALSE NEIGHBOUR: 'it returns false'. Refute it at one input. -/
def fnGeoSearchWrong : ChangeSpec := { name := "fnGeoSearch", fn := fun _ => fun
  | [d] => { results := [.lit (.bool false)], args := [d] }
  | _ => none }
def FnGeoSearchWrongFalsely : Prop := fnGeoSearchRow.holds Tryz.pinned (OpenSpec.ofChange fnGeoSearchWrong)

/-- 'laws.FnGeoPoint': WHATEVER THE INPUT: true; the input reads as it did. -/
def fnGeoPointSpec : ChangeSpec := { name := "fnGeoPoint", fn := fun _ => fun
  | [d1, d2, d3, d4, d5] => { results := [.lit (.bool true)], args := [d1, d2, d3, d4, d5] }
  | _ => none }
def fnGeoPointRow : OpenClaim := { program := "ytfhkmkhcofodmaagreat", sum := "01ef9524c4fcb944974476f9cba1bf85bb0d5c2741c2c0edbf1128cef589e3e5", func := "pub-panorama/laws.FnGeoPoint", spec := "fnGeoPoint", inPlace := ["math.Float64frombits", "math.Float64bits"], unfollowed := true, recurses := true, named := ["encoding/binary.LittleEndian"], apart := false }
def FnGeoPointSaid : Prop := fnGeoPointRow.holds Tryz.pinned (OpenSpec.ofChange fnGeoPointSpec)

/-- ITS FALSE NEIGHBOUR: 'it returns false'. Refute it at one input. -/
def fnGeoPointWrong : ChangeSpec := { name := "fnGeoPoint", fn := fun _ => fun
  | [d1, d2, d3, d4, d5] => { results := [.lit (.bool false)], args := [d1, d2, d3, d4, d5] }
  | _ => none }
def FnGeoPointWrongFalsely : Prop := fnGeoPointRow.holds Tryz.pinned (OpenSpec.ofChange fnGeoPointWrong)

/-- 'laws.FnGeoLineRect': WHATEVER THE INPUT: true; the input reads as it did. -/
def fnGeoLineRectSpec : ChangeSpec := { name := "fnGeoLineRect", fn := fun _ => fun
  | [d1, d2, d3] => { results := [.lit (.bool true)], args := [d1, d2, d3] }
  | _ => none }
def fnGeoLineRectRow : OpenClaim := { program := "ytfhkmkhcofodmaagreat", sum := "01ef9524c4fcb944974476f9cba1bf85bb0d5c2741c2c0edbf1128cef589e3e5", func := "pub-panorama/laws.FnGeoLineRect", spec := "fnGeoLineRect", inPlace := ["math.Float64frombits", "math.Float64bits"], unfollowed := true, recurses := true, named := ["encoding/binary.LittleEndian"], apart := false }
def FnGeoLineRectSaid : Prop := fnGeoLineRectRow.holds Tryz.pinned (OpenSpec.ofChange fnGeoLineRectSpec)

/-- ITS FALSE NEIGHBOUR: 'it returns false'. Refute it at one input. -/
def fnGeoLineRectWrong : ChangeSpec := { name := "fnGeoLineRect", fn := fun _ => fun
  | [d1, d2, d3] => { results := [.lit (.bool false)], args := [d1, d2, d3] }
  | _ => none }
def FnGeoLineRectWrongFalsely : Prop := fnGeoLineRectRow.holds Tryz.pinned (OpenSpec.ofChange fnGeoLineRectWrong)

/-- 'laws.FnGeoLines': WHATEVER THE INPUT: true; the input reads as it did. -/
def fnGeoLinesSpec : ChangeSpec := { name := "fnGeoLines", fn := fun _ => fun
  | [d1, d2, d3] => { results := [.lit (.bool true)], args := [d1, d2, d3] }
  | _ => none }
def fnGeoLinesRow : OpenClaim := { program := "ytfhkmkhcofodmaagreat", sum := "01ef9524c4fcb944974476f9cba1bf85bb0d5c2741c2c0edbf1128cef589e3e5", func := "pub-panorama/laws.FnGeoLines", spec := "fnGeoLines", inPlace := ["math.Float64frombits", "math.Float64bits"], unfollowed := true, recurses := true, named := ["encoding/binary.LittleEndian"], apart := false }
def FnGeoLinesSaid : Prop := fnGeoLinesRow.holds Tryz.pinned (OpenSpec.ofChange fnGeoLinesSpec)

/-- ITS FALSE NEIGHBOUR: 'it returns false'. Refute it at one input. -/
def fnGeoLinesWrong : ChangeSpec := { name := "fnGeoLines", fn := fun _ => fun
  | [d1, d2, d3] => { results := [.lit (.bool false)], args := [d1, d2, d3] }
  | _ => none }
def FnGeoLinesWrongFalsely : Prop := fnGeoLinesRow.holds Tryz.pinned (OpenSpec.ofChange fnGeoLinesWrong)

/-- 'laws.FnPolyTurned': WHATEVER THE INPUT: true; the input reads as it did. -/
def fnPolyTurnedSpec : ChangeSpec := { name := "fnPolyTurned", fn := fun _ => fun
  | [d1, d2, d3, d4] => { results := [.lit (.bool true)], args := [d1, d2, d3, d4] }
  | _ => none }
def fnPolyTurnedRow : OpenClaim := { program := "ytfhkmkhcofodmaagreat", sum := "01ef9524c4fcb944974476f9cba1bf85bb0d5c2741c2c0edbf1128cef589e3e5", func := "pub-panorama/laws.FnPolyTurned", spec := "fnPolyTurned", inPlace := ["math.Float64bits"], unfollowed := true, recurses := true, named := ["encoding/binary.LittleEndian"], apart := false }
def FnPolyTurnedSaid : Prop := fnPolyTurnedRow.holds Tryz.pinned (OpenSpec.ofChange fnPolyTurnedSpec)

/-- ITS FALSE NEIGHBOUR: 'it returns false'. Refute it at one input. -/
def fnPolyTurnedWrong : ChangeSpec := { name := "fnPolyTurned", fn := fun _ => fun
  | [d1, d2, d3, d4] => { results := [.lit (.bool false)], args := [d1, d2, d3, d4] }
  | _ => none }
def FnPolyTurnedWrongFalsely : Prop := fnPolyTurnedRow.holds Tryz.pinned (OpenSpec.ofChange fnPolyTurnedWrong)

/-- 'laws.FnPolyFar': WHATEVER THE INPUT: true; the input reads as it did. -/
def fnPolyFarSpec : ChangeSpec := { name := "fnPolyFar", fn := fun _ => fun
  | [d1, d2, d3, d4] => { results := [.lit (.bool true)], args := [d1, d2, d3, d4] }
  | _ => none }
def fnPolyFarRow : OpenClaim := { program := "ytfhkmkhcofodmaagreat", sum := "01ef9524c4fcb944974476f9cba1bf85bb0d5c2741c2c0edbf1128cef589e3e5", func := "pub-panorama/laws.FnPolyFar", spec := "fnPolyFar", inPlace := ["math.Float64bits"], unfollowed := true, recurses := true, named := ["encoding/binary.LittleEndian"], apart := false }
def FnPolyFarSaid : Prop := fnPolyFarRow.holds Tryz.pinned (OpenSpec.ofChange fnPolyFarSpec)

/-- ITS FALSE NEIGHBOUR: 'it returns false'. Refute it at one input. -/
def fnPolyFarWrong : ChangeSpec := { name := "fnPolyFar", fn := fun _ => fun
  | [d1, d2, d3, d4] => { results := [.lit (.bool false)], args := [d1, d2, d3, d4] }
  | _ => none }
def FnPolyFarWrongFalsely : Prop := fnPolyFarRow.holds Tryz.pinned (OpenSpec.ofChange fnPolyFarWrong)

/-- 'laws.FnPolyMoved': WHATEVER THE INPUT: true; the input reads as it did. -/
def fnPolyMovedSpec : ChangeSpec := { name := "fnPolyMoved", fn := fun _ => fun
  | [d1, d2, d3, d4, d5] => { results := [.lit (.bool true)], args := [d1, d2, d3, d4, d5] }
  | _ => none }
def fnPolyMovedRow : OpenClaim := { program := "ytfhkmkhcofodmaagreat", sum := "01ef9524c4fcb944974476f9cba1bf85bb0d5c2741c2c0edbf1128cef589e3e5", func := "pub-panorama/laws.FnPolyMoved", spec := "fnPolyMoved", inPlace := ["math.Float64bits"], unfollowed := true, recurses := true, named := ["encoding/binary.LittleEndian"], apart := false }
def FnPolyMovedSaid : Prop := fnPolyMovedRow.holds Tryz.pinned (OpenSpec.ofChange fnPolyMovedSpec)

/-- ITS FALSE NEIGHBOUR: 'it returns false'. Refute it at one input. -/
def fnPolyMovedWrong : ChangeSpec := { name := "fnPolyMoved", fn := fun _ => fun
  | [d1, d2, d3, d4, d5] => { results := [.lit (.bool false)], args := [d1, d2, d3, d4, d5] }
  | _ => none }
def FnPolyMovedWrongFalsely : Prop := fnPolyMovedRow.holds Tryz.pinned (OpenSpec.ofChange fnPolyMovedWrong)

/-- 'laws.FnPolyConvex': WHATEVER THE INPUT: true; the input reads as it did. -/
def fnPolyConvexSpec : ChangeSpec := { name := "fnPolyConvex", fn := fun _ => fun
  | [d1, d2, d3, d4] => { results := [.lit (.bool true)], args := [d1, d2, d3, d4] }
  | _ => none }
def fnPolyConvexRow : OpenClaim := { program := "ytfhkmkhcofodmaagreat", sum := "01ef9524c4fcb944974476f9cba1bf85bb0d5c2741c2c0edbf1128cef589e3e5", func := "pub-panorama/laws.FnPolyConvex", spec := "fnPolyConvex", inPlace := ["math.Float64bits"], unfollowed := true, recurses := true, named := ["encoding/binary.LittleEndian"], apart := false }
def FnPolyConvexSaid : Prop := fnPolyConvexRow.holds Tryz.pinned (OpenSpec.ofChange fnPolyConvexSpec)

/-- ITS FALSE NEIGHBOUR: 'it returns false'. Refute it at one input. -/
def fnPolyConvexWrong : ChangeSpec := { name := "fnPolyConvex", fn := fun _ => fun
  | [d1, d2, d3, d4] => { results := [.lit (.bool false)], args := [d1, d2, d3, d4] }
  | _ => none }
def FnPolyConvexWrongFalsely : Prop := fnPolyConvexRow.holds Tryz.pinned (OpenSpec.ofChange fnPolyConvexWrong)

/-- 'laws.FnPolyHole': WHATEVER THE INPUT: true; the input reads as it did. -/
def fnPolyHoleSpec : ChangeSpec := { name := "fnPolyHole", fn := fun _ => fun
  | [d1, d2, d3, d4] => { results := [.lit (.bool true)], args := [d1, d2, d3, d4] }
  | _ => none }
def fnPolyHoleRow : OpenClaim := { program := "ytfhkmkhcofodmaagreat", sum := "01ef9524c4fcb944974476f9cba1bf85bb0d5c2741c2c0edbf1128cef589e3e5", func := "pub-panorama/laws.FnPolyHole", spec := "fnPolyHole", inPlace := ["math.Float64bits"], unfollowed := true, recurses := true, named := ["encoding/binary.LittleEndian"], apart := false }
def FnPolyHoleSaid : Prop := fnPolyHoleRow.holds Tryz.pinned (OpenSpec.ofChange fnPolyHoleSpec)

/-- ITS FALSE NEIGHBOUR: 'it returns false'. Refute it at one input. -/
def fnPolyHoleWrong : ChangeSpec := { name := "fnPolyHole", fn := fun _ => fun
  | [d1, d2, d3, d4] => { results := [.lit (.bool false)], args := [d1, d2, d3, d4] }
  | _ => none }
def FnPolyHoleWrongFalsely : Prop := fnPolyHoleRow.holds Tryz.pinned (OpenSpec.ofChange fnPolyHoleWrong)

/-- 'laws.FnPolyIndexed': WHATEVER THE INPUT: true; the input reads as it did. -/
def fnPolyIndexedSpec : ChangeSpec := { name := "fnPolyIndexed", fn := fun _ => fun
  | [d1, d2, d3, d4, d5, d6] => { results := [.lit (.bool true)], args := [d1, d2, d3, d4, d5, d6] }
  | _ => none }
def fnPolyIndexedRow : OpenClaim := { program := "ytfhkmkhcofodmaagreat", sum := "01ef9524c4fcb944974476f9cba1bf85bb0d5c2741c2c0edbf1128cef589e3e5", func := "pub-panorama/laws.FnPolyIndexed", spec := "fnPolyIndexed", inPlace := ["math.Float64bits"], unfollowed := true, recurses := true, named := ["encoding/binary.LittleEndian"], apart := false }
def FnPolyIndexedSaid : Prop := fnPolyIndexedRow.holds Tryz.pinned (OpenSpec.ofChange fnPolyIndexedSpec)

/-- ITS FALSE NEIGHBOUR: 'it returns false'. Refute it at one input. -/
def fnPolyIndexedWrong : ChangeSpec := { name := "fnPolyIndexed", fn := fun _ => fun
  | [d1, d2, d3, d4, d5, d6] => { results := [.lit (.bool false)], args := [d1, d2, d3, d4, d5, d6] }
  | _ => none }
def FnPolyIndexedWrongFalsely : Prop := fnPolyIndexedRow.holds Tryz.pinned (OpenSpec.ofChange fnPolyIndexedWrong)

/-- 'laws.FnPolyPoint': WHATEVER THE INPUT: true; the input reads as it did. -/
def fnPolyPointSpec : ChangeSpec := { name := "fnPolyPoint", fn := fun _ => fun
  | [d1, d2, d3, d4] => { results := [.lit (.bool true)], args := [d1, d2, d3, d4] }
  | _ => none }
def fnPolyPointRow : OpenClaim := { program := "ytfhkmkhcofodmaagreat", sum := "01ef9524c4fcb944974476f9cba1bf85bb0d5c2741c2c0edbf1128cef589e3e5", func := "pub-panorama/laws.FnPolyPoint", spec := "fnPolyPoint", inPlace := ["math.Float64bits"], unfollowed := true, recurses := true, named := ["encoding/binary.LittleEndian"], apart := false }
def FnPolyPointSaid : Prop := fnPolyPointRow.holds Tryz.pinned (OpenSpec.ofChange fnPolyPointSpec)

/-- ITS FALSE NEIGHBOUR: 'it returns false'. Refute it at one input. -/
def fnPolyPointWrong : ChangeSpec := { name := "fnPolyPoint", fn := fun _ => fun
  | [d1, d2, d3, d4] => { results := [.lit (.bool false)], args := [d1, d2, d3, d4] }
  | _ => none }
def FnPolyPointWrongFalsely : Prop := fnPolyPointRow.holds Tryz.pinned (OpenSpec.ofChange fnPolyPointWrong)

/-- 'laws.FnPolySelf': WHATEVER THE INPUT: true; the input reads as it did. -/
def fnPolySelfSpec : ChangeSpec := { name := "fnPolySelf", fn := fun _ => fun
  | [d1, d2, d3, d4] => { results := [.lit (.bool true)], args := [d1, d2, d3, d4] }
  | _ => none }
def fnPolySelfRow : OpenClaim := { program := "ytfhkmkhcofodmaagreat", sum := "01ef9524c4fcb944974476f9cba1bf85bb0d5c2741c2c0edbf1128cef589e3e5", func := "pub-panorama/laws.FnPolySelf", spec := "fnPolySelf", inPlace := ["math.Float64bits"], unfollowed := true, recurses := true, named := ["encoding/binary.LittleEndian"], apart := false }
def FnPolySelfSaid : Prop := fnPolySelfRow.holds Tryz.pinned (OpenSpec.ofChange fnPolySelfSpec)

/-- ITS FALSE NEIGHBOUR: 'it returns false'. Refute it at one input. -/
def fnPolySelfWrong : ChangeSpec := { name := "fnPolySelf", fn := fun _ => fun
  | [d1, d2, d3, d4] => { results := [.lit (.bool false)], args := [d1, d2, d3, d4] }
  | _ => none }
def FnPolySelfWrongFalsely : Prop := fnPolySelfRow.holds Tryz.pinned (OpenSpec.ofChange fnPolySelfWrong)

/- THE SECOND FORM. 'bulk': how many values and letters a reading holds, each counted each time it is reached (what is shared counts as often as it is met; a slice's spare places count too). A statement '..UptoSaid' is the law's where the arguments, and the package variables that the reading takes, are together of bulk at most 1048576: NARROWER than '..Said'. Prove '..Said' where nothing that the law and all that it calls make is longer than what came in: it says more and counts as full. Else prove '..UptoSaid'. A law counts once. -/
mutual
def uptoBulk {H : Type} : DataW H → Nat
  | .lit (.string bytes) => bytes.length + 1
  | .lit _ => 1
  | .nil => 1
  | .ptr d => uptoBulk d + 1
  | .slice elems spare => uptoBulkAll elems + uptoBulkAll spare + 1
  | .agg parts => uptoBulkAll parts + 1
  | .iface _ d => uptoBulk d + 1
  | .map entries => uptoBulkEntries entries + 1
  | .held _ => 1
def uptoBulkAll {H : Type} : List (DataW H) → Nat
  | [] => 0
  | d :: r => uptoBulk d + uptoBulkAll r
def uptoBulkEntries {H : Type} : List (Lit × DataW H) → Nat
  | [] => 0
  | x :: r => uptoBulkEntry x + uptoBulkEntries r
def uptoBulkEntry {H : Type} : Lit × DataW H → Nat
  | (.string bytes, d) => bytes.length + uptoBulk d + 1
  | (_, d) => uptoBulk d + 1
 end
def uptoSmall : (H : Type) → List (DataW H) → Bool := fun _ ds => decide (uptoBulkAll ds ≤ 1048576)
def OpenSpec.upto (s : _root_.Go.ChangeSpec) : _root_.Go.OpenSpec := { _root_.Go.OpenSpec.ofChange s with cond := some uptoSmall }

/-- 'laws.FnGeoShape', WHERE WHAT IT READS IS OF BULK AT MOST 1048576: true; the input reads as it did. -/
def fnGeoShapeUptoRow : OpenClaim := { program := "ytfhkmkhcofodmaagreat", sum := "01ef9524c4fcb944974476f9cba1bf85bb0d5c2741c2c0edbf1128cef589e3e5", func := "pub-panorama/laws.FnGeoShape", spec := "fnGeoShape", inPlace := ["math.Float64frombits", "math.Float64bits"], unfollowed := true, recurses := true, named := ["encoding/binary.LittleEndian"], apart := false, narrowed := true }
def FnGeoShapeUptoSaid : Prop := fnGeoShapeUptoRow.holds Tryz.pinned (OpenSpec.upto fnGeoShapeSpec)

/-- 'laws.FnGeoSearch', WHERE WHAT IT READS IS OF BULK AT MOST 1048576: true; the input reads as it did. -/
def fnGeoSearchUptoRow : OpenClaim := { program := "ytfhkmkhcofodmaagreat", sum := "01ef9524c4fcb944974476f9cba1bf85bb0d5c2741c2c0edbf1128cef589e3e5", func := "pub-panorama/laws.FnGeoSearch", spec := "fnGeoSearch", inPlace := ["math.Float64frombits", "math.Float64bits"], unfollowed := true, recurses := true, named := ["encoding/binary.LittleEndian"], apart := false, narrowed := true }
def FnGeoSearchUptoSaid : Prop := fnGeoSearchUptoRow.holds Tryz.pinned (OpenSpec.upto fnGeoSearchSpec)

/-- 'laws.FnGeoPoint', WHERE WHAT IT READS IS OF BULK AT MOST 1048576: true; the input reads as it did. -/
def fnGeoPointUptoRow : OpenClaim := { program := "ytfhkmkhcofodmaagreat", sum := "01ef9524c4fcb944974476f9cba1bf85bb0d5c2741c2c0edbf1128cef589e3e5", func := "pub-panorama/laws.FnGeoPoint", spec := "fnGeoPoint", inPlace := ["math.Float64frombits", "math.Float64bits"], unfollowed := true, recurses := true, named := ["encoding/binary.LittleEndian"], apart := false, narrowed := true }
def FnGeoPointUptoSaid : Prop := fnGeoPointUptoRow.holds Tryz.pinned (OpenSpec.upto fnGeoPointSpec)

/-- 'laws.FnGeoLineRect', WHERE WHAT IT READS IS OF BULK AT MOST 1048576: true; the input reads as it did. -/
def fnGeoLineRectUptoRow : OpenClaim := { program := "ytfhkmkhcofodmaagreat", sum := "01ef9524c4fcb944974476f9cba1bf85bb0d5c2741c2c0edbf1128cef589e3e5", func := "pub-panorama/laws.FnGeoLineRect", spec := "fnGeoLineRect", inPlace := ["math.Float64frombits", "math.Float64bits"], unfollowed := true, recurses := true, named := ["encoding/binary.LittleEndian"], apart := false, narrowed := true }
def FnGeoLineRectUptoSaid : Prop := fnGeoLineRectUptoRow.holds Tryz.pinned (OpenSpec.upto fnGeoLineRectSpec)

/-- 'laws.FnGeoLines', WHERE WHAT IT READS IS OF BULK AT MOST 1048576: true; the input reads as it did. -/
def fnGeoLinesUptoRow : OpenClaim := { program := "ytfhkmkhcofodmaagreat", sum := "01ef9524c4fcb944974476f9cba1bf85bb0d5c2741c2c0edbf1128cef589e3e5", func := "pub-panorama/laws.FnGeoLines", spec := "fnGeoLines", inPlace := ["math.Float64frombits", "math.Float64bits"], unfollowed := true, recurses := true, named := ["encoding/binary.LittleEndian"], apart := false, narrowed := true }
def FnGeoLinesUptoSaid : Prop := fnGeoLinesUptoRow.holds Tryz.pinned (OpenSpec.upto fnGeoLinesSpec)

/-- 'laws.FnPolyTurned', WHERE WHAT IT READS IS OF BULK AT MOST 1048576: true; the input reads as it did. -/
def fnPolyTurnedUptoRow : OpenClaim := { program := "ytfhkmkhcofodmaagreat", sum := "01ef9524c4fcb944974476f9cba1bf85bb0d5c2741c2c0edbf1128cef589e3e5", func := "pub-panorama/laws.FnPolyTurned", spec := "fnPolyTurned", inPlace := ["math.Float64bits"], unfollowed := true, recurses := true, named := ["encoding/binary.LittleEndian"], apart := false, narrowed := true }
def FnPolyTurnedUptoSaid : Prop := fnPolyTurnedUptoRow.holds Tryz.pinned (OpenSpec.upto fnPolyTurnedSpec)

/-- 'laws.FnPolyFar', WHERE WHAT IT READS IS OF BULK AT MOST 1048576: true; the input reads as it did. -/
def fnPolyFarUptoRow : OpenClaim := { program := "ytfhkmkhcofodmaagreat", sum := "01ef9524c4fcb944974476f9cba1bf85bb0d5c2741c2c0edbf1128cef589e3e5", func := "pub-panorama/laws.FnPolyFar", spec := "fnPolyFar", inPlace := ["math.Float64bits"], unfollowed := true, recurses := true, named := ["encoding/binary.LittleEndian"], apart := false, narrowed := true }
def FnPolyFarUptoSaid : Prop := fnPolyFarUptoRow.holds Tryz.pinned (OpenSpec.upto fnPolyFarSpec)

/-- 'laws.FnPolyMoved', WHERE WHAT IT READS IS OF BULK AT MOST 1048576: true; the input reads as it did. -/
def fnPolyMovedUptoRow : OpenClaim := { program := "ytfhkmkhcofodmaagreat", sum := "01ef9524c4fcb944974476f9cba1bf85bb0d5c2741c2c0edbf1128cef589e3e5", func := "pub-panorama/laws.FnPolyMoved", spec := "fnPolyMoved", inPlace := ["math.Float64bits"], unfollowed := true, recurses := true, named := ["encoding/binary.LittleEndian"], apart := false, narrowed := true }
def FnPolyMovedUptoSaid : Prop := fnPolyMovedUptoRow.holds Tryz.pinned (OpenSpec.upto fnPolyMovedSpec)

/-- 'laws.FnPolyConvex', WHERE WHAT IT READS IS OF BULK AT MOST 1048576: true; the input reads as it did. -/
def fnPolyConvexUptoRow : OpenClaim := { program := "ytfhkmkhcofodmaagreat", sum := "01ef9524c4fcb944974476f9cba1bf85bb0d5c2741c2c0edbf1128cef589e3e5", func := "pub-panorama/laws.FnPolyConvex", spec := "fnPolyConvex", inPlace := ["math.Float64bits"], unfollowed := true, recurses := true, named := ["encoding/binary.LittleEndian"], apart := false, narrowed := true }
def FnPolyConvexUptoSaid : Prop := fnPolyConvexUptoRow.holds Tryz.pinned (OpenSpec.upto fnPolyConvexSpec)

/-- 'laws.FnPolyHole', WHERE WHAT IT READS IS OF BULK AT MOST 1048576: true; the input reads as it did. -/
def fnPolyHoleUptoRow : OpenClaim := { program := "ytfhkmkhcofodmaagreat", sum := "01ef9524c4fcb944974476f9cba1bf85bb0d5c2741c2c0edbf1128cef589e3e5", func := "pub-panorama/laws.FnPolyHole", spec := "fnPolyHole", inPlace := ["math.Float64bits"], unfollowed := true, recurses := true, named := ["encoding/binary.LittleEndian"], apart := false, narrowed := true }
def FnPolyHoleUptoSaid : Prop := fnPolyHoleUptoRow.holds Tryz.pinned (OpenSpec.upto fnPolyHoleSpec)

/-- 'laws.FnPolyIndexed', WHERE WHAT IT READS IS OF BULK AT MOST 1048576: true; the input reads as it did. -/
def fnPolyIndexedUptoRow : OpenClaim := { program := "ytfhkmkhcofodmaagreat", sum := "01ef9524c4fcb944974476f9cba1bf85bb0d5c2741c2c0edbf1128cef589e3e5", func := "pub-panorama/laws.FnPolyIndexed", spec := "fnPolyIndexed", inPlace := ["math.Float64bits"], unfollowed := true, recurses := true, named := ["encoding/binary.LittleEndian"], apart := false, narrowed := true }
def FnPolyIndexedUptoSaid : Prop := fnPolyIndexedUptoRow.holds Tryz.pinned (OpenSpec.upto fnPolyIndexedSpec)

/-- 'laws.FnPolyPoint', WHERE WHAT IT READS IS OF BULK AT MOST 1048576: true; the input reads as it did. -/
def fnPolyPointUptoRow : OpenClaim := { program := "ytfhkmkhcofodmaagreat", sum := "01ef9524c4fcb944974476f9cba1bf85bb0d5c2741c2c0edbf1128cef589e3e5", func := "pub-panorama/laws.FnPolyPoint", spec := "fnPolyPoint", inPlace := ["math.Float64bits"], unfollowed := true, recurses := true, named := ["encoding/binary.LittleEndian"], apart := false, narrowed := true }
def FnPolyPointUptoSaid : Prop := fnPolyPointUptoRow.holds Tryz.pinned (OpenSpec.upto fnPolyPointSpec)

/-- 'laws.FnPolySelf', WHERE WHAT IT READS IS OF BULK AT MOST 1048576: true; the input reads as it did. -/
def fnPolySelfUptoRow : OpenClaim := { program := "ytfhkmkhcofodmaagreat", sum := "01ef9524c4fcb944974476f9cba1bf85bb0d5c2741c2c0edbf1128cef589e3e5", func := "pub-panorama/laws.FnPolySelf", spec := "fnPolySelf", inPlace := ["math.Float64bits"], unfollowed := true, recurses := true, named := ["encoding/binary.LittleEndian"], apart := false, narrowed := true }
def FnPolySelfUptoSaid : Prop := fnPolySelfUptoRow.holds Tryz.pinned (OpenSpec.upto fnPolySelfSpec)

end Rows
end Go.Proofs.YtfhkmkhcofodmaaGreat
