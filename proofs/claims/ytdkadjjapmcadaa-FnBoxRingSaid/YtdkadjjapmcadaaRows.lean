/-
  No cell of these rows narrows 'for every input' (looked for: loops, veiled, ifaces, maps, wideKeys, modest, calm, conditions, laid).
  DERIVED. THE GIVEN ROWS OF THIS SEAT. 11 by the template 'for every input the law returns true; each argument reads behind the call as it read before'; 0 by the template 'total and deterministic' (their statements: YtdkadjjapmcadaaTotals.lean).
  GIVEN WITH THE SEED: the statements are not yours to turn. If you find one false, say at which input.
  Laid BY PROGRAM, IN A SANDBOX (cutbox-rows.mjs): the forced cells as the released guide's own fill.sh prints them over the translation a85d875e8cbc2fdc… (all of the seat's roots in one cut). By AI agents, Wed Nov 11 2026. No macro, syntax, notation, axiom, sorry.
-/
import Derived.Test.YtdkadjjapmcadaaChecked
import GoSem.Claim
import GoSem.ClaimJoined
import GoSem.ClaimMapViews
import Derived.JoinedTies
import Derived.KernelRfl
namespace Go.Proofs.Ytdkadjjapmcadaa
/- THE CELL 'sum', in the pinned program and in every row, IS THE sha256 OF THE DUMP (.gsa) THAT YtdkadjjapmcadaaProg.lean LOADS. Nothing in Lean hashes anything: it is a label: what it is worth is what the hold of that sum in a sandbox is worth. -/
noncomputable def Try.pinned : Pinned := { name := "ytdkadjjapmcadaa", sum := "a85d875e8cbc2fdc3a43629f22207290d83770d8f586b1ea37e05833ed03840e", checked := Try.checked }
namespace Rows
def none {H : Type} : Left H := { results := [], args := [] }

/-- 'laws.FnReversed': WHATEVER THE INPUT: true; the input reads as it did. -/
def fnReversedSpec : ChangeSpec := { name := "fnReversed", fn := fun _ => fun
  | [d] => { results := [.lit (.bool true)], args := [d] }
  | _ => none }
def fnReversedRow : OpenClaim := { program := "ytdkadjjapmcadaa", sum := "a85d875e8cbc2fdc3a43629f22207290d83770d8f586b1ea37e05833ed03840e", func := "loop.example/pub-g01503/laws.FnReversed", spec := "fnReversed", inPlace := ["math.Float64bits"], apart := false }
def FnReversedSaid : Prop := fnReversedRow.holds Try.pinned (OpenSpec.ofChange fnReversedSpec)

/-- ITS FALSE NEIGHBOUR: 'it returns false'. Refute it at one input. -/
def fnReversedWrong : ChangeSpec := { name := "fnReversed", fn := fun _ => fun
  | [d] => { results := [.lit (.bool false)], args := [d] }
  | _ => none }
def FnReversedWrongFalsely : Prop := fnReversedRow.holds Try.pinned (OpenSpec.ofChange fnReversedWrong)

/-- 'laws.FnClosed': WHATEVER THE INPUT: true; the input reads as it did. -/
def fnClosedSpec : ChangeSpec := { name := "fnClosed", fn := fun _ => fun
  | [d] => { results := [.lit (.bool true)], args := [d] }
  | _ => none }
def fnClosedRow : OpenClaim := { program := "ytdkadjjapmcadaa", sum := "a85d875e8cbc2fdc3a43629f22207290d83770d8f586b1ea37e05833ed03840e", func := "loop.example/pub-g01503/laws.FnClosed", spec := "fnClosed", inPlace := ["math.archTrunc", "math.Float64bits", "math.Float64frombits"], apart := false }
def FnClosedSaid : Prop := fnClosedRow.holds Try.pinned (OpenSpec.ofChange fnClosedSpec)

/-- ITS FALSE NEIGHBOUR: 'it returns false'. Refute it at one input. -/
def fnClosedWrong : ChangeSpec := { name := "fnClosed", fn := fun _ => fun
  | [d] => { results := [.lit (.bool false)], args := [d] }
  | _ => none }
def FnClosedWrongFalsely : Prop := fnClosedRow.holds Try.pinned (OpenSpec.ofChange fnClosedWrong)

/-- 'laws.FnBoxHas': WHATEVER THE INPUT: true; the input reads as it did. -/
def fnBoxHasSpec : ChangeSpec := { name := "fnBoxHas", fn := fun _ => fun
  | [d1, d2, d3] => { results := [.lit (.bool true)], args := [d1, d2, d3] }
  | _ => none }
def fnBoxHasRow : OpenClaim := { program := "ytdkadjjapmcadaa", sum := "a85d875e8cbc2fdc3a43629f22207290d83770d8f586b1ea37e05833ed03840e", func := "loop.example/pub-g01503/laws.FnBoxHas", spec := "fnBoxHas", inPlace := ["math.archTrunc", "math.Float64bits", "math.Float64frombits"], apart := false }
def FnBoxHasSaid : Prop := fnBoxHasRow.holds Try.pinned (OpenSpec.ofChange fnBoxHasSpec)

/-- ITS FALSE NEIGHBOUR: 'it returns false'. Refute it at one input. -/
def fnBoxHasWrong : ChangeSpec := { name := "fnBoxHas", fn := fun _ => fun
  | [d1, d2, d3] => { results := [.lit (.bool false)], args := [d1, d2, d3] }
  | _ => none }
def FnBoxHasWrongFalsely : Prop := fnBoxHasRow.holds Try.pinned (OpenSpec.ofChange fnBoxHasWrong)

/-- 'laws.FnBoxesMeet': WHATEVER THE INPUT: true; the input reads as it did. -/
def fnBoxesMeetSpec : ChangeSpec := { name := "fnBoxesMeet", fn := fun _ => fun
  | [d1, d2, d3, d4] => { results := [.lit (.bool true)], args := [d1, d2, d3, d4] }
  | _ => none }
def fnBoxesMeetRow : OpenClaim := { program := "ytdkadjjapmcadaa", sum := "a85d875e8cbc2fdc3a43629f22207290d83770d8f586b1ea37e05833ed03840e", func := "loop.example/pub-g01503/laws.FnBoxesMeet", spec := "fnBoxesMeet", inPlace := ["math.archTrunc", "math.Float64bits", "math.Float64frombits"], apart := false }
def FnBoxesMeetSaid : Prop := fnBoxesMeetRow.holds Try.pinned (OpenSpec.ofChange fnBoxesMeetSpec)

/-- ITS FALSE NEIGHBOUR: 'it returns false'. Refute it at one input. -/
def fnBoxesMeetWrong : ChangeSpec := { name := "fnBoxesMeet", fn := fun _ => fun
  | [d1, d2, d3, d4] => { results := [.lit (.bool false)], args := [d1, d2, d3, d4] }
  | _ => none }
def FnBoxesMeetWrongFalsely : Prop := fnBoxesMeetRow.holds Try.pinned (OpenSpec.ofChange fnBoxesMeetWrong)

/-- 'laws.FnOrientation': WHATEVER THE INPUT: true; the input reads as it did. -/
def fnOrientationSpec : ChangeSpec := { name := "fnOrientation", fn := fun _ => fun
  | [d] => { results := [.lit (.bool true)], args := [d] }
  | _ => none }
def fnOrientationRow : OpenClaim := { program := "ytdkadjjapmcadaa", sum := "a85d875e8cbc2fdc3a43629f22207290d83770d8f586b1ea37e05833ed03840e", func := "loop.example/pub-g01503/laws.FnOrientation", spec := "fnOrientation", inPlace := ["math.archTrunc", "math.Float64bits", "math.Float64frombits"], apart := false }
def FnOrientationSaid : Prop := fnOrientationRow.holds Try.pinned (OpenSpec.ofChange fnOrientationSpec)

/-- ITS FALSE NEIGHBOUR: 'it returns false'. Refute it at one input. -/
def fnOrientationWrong : ChangeSpec := { name := "fnOrientation", fn := fun _ => fun
  | [d] => { results := [.lit (.bool false)], args := [d] }
  | _ => none }
def FnOrientationWrongFalsely : Prop := fnOrientationRow.holds Try.pinned (OpenSpec.ofChange fnOrientationWrong)

/-- 'laws.FnDistance': WHATEVER THE INPUT: true; the input reads as it did. -/
def fnDistanceSpec : ChangeSpec := { name := "fnDistance", fn := fun _ => fun
  | [d1, d2] => { results := [.lit (.bool true)], args := [d1, d2] }
  | _ => none }
def fnDistanceRow : OpenClaim := { program := "ytdkadjjapmcadaa", sum := "a85d875e8cbc2fdc3a43629f22207290d83770d8f586b1ea37e05833ed03840e", func := "loop.example/pub-g01503/laws.FnDistance", spec := "fnDistance", inPlace := ["math.sqrt", "math.archTrunc", "math.Float64bits", "math.Float64frombits"], apart := false }
def FnDistanceSaid : Prop := fnDistanceRow.holds Try.pinned (OpenSpec.ofChange fnDistanceSpec)

/-- ITS FALSE NEIGHBOUR: 'it returns false'. Refute it at one input. -/
def fnDistanceWrong : ChangeSpec := { name := "fnDistance", fn := fun _ => fun
  | [d1, d2] => { results := [.lit (.bool false)], args := [d1, d2] }
  | _ => none }
def FnDistanceWrongFalsely : Prop := fnDistanceRow.holds Try.pinned (OpenSpec.ofChange fnDistanceWrong)

/-- 'laws.FnSegmentAny': WHATEVER THE INPUT: true; the input reads as it did. -/
def fnSegmentAnySpec : ChangeSpec := { name := "fnSegmentAny", fn := fun _ => fun
  | [d1, d2, d3] => { results := [.lit (.bool true)], args := [d1, d2, d3] }
  | _ => none }
def fnSegmentAnyRow : OpenClaim := { program := "ytdkadjjapmcadaa", sum := "a85d875e8cbc2fdc3a43629f22207290d83770d8f586b1ea37e05833ed03840e", func := "loop.example/pub-g01503/laws.FnSegmentAny", spec := "fnSegmentAny", inPlace := ["math.archTrunc", "math.Float64bits", "math.Float64frombits", "math.sqrt"], apart := false }
def FnSegmentAnySaid : Prop := fnSegmentAnyRow.holds Try.pinned (OpenSpec.ofChange fnSegmentAnySpec)

/-- ITS FALSE NEIGHBOUR: 'it returns false'. Refute it at one input. -/
def fnSegmentAnyWrong : ChangeSpec := { name := "fnSegmentAny", fn := fun _ => fun
  | [d1, d2, d3] => { results := [.lit (.bool false)], args := [d1, d2, d3] }
  | _ => none }
def FnSegmentAnyWrongFalsely : Prop := fnSegmentAnyRow.holds Try.pinned (OpenSpec.ofChange fnSegmentAnyWrong)

/-- 'laws.FnSegment': WHATEVER THE INPUT: true; the input reads as it did. -/
def fnSegmentSpec : ChangeSpec := { name := "fnSegment", fn := fun _ => fun
  | [d1, d2, d3, d4] => { results := [.lit (.bool true)], args := [d1, d2, d3, d4] }
  | _ => none }
def fnSegmentRow : OpenClaim := { program := "ytdkadjjapmcadaa", sum := "a85d875e8cbc2fdc3a43629f22207290d83770d8f586b1ea37e05833ed03840e", func := "loop.example/pub-g01503/laws.FnSegment", spec := "fnSegment", inPlace := ["math.archTrunc", "math.Float64bits", "math.Float64frombits", "math.archMin", "math.archMax"], apart := false }
def FnSegmentSaid : Prop := fnSegmentRow.holds Try.pinned (OpenSpec.ofChange fnSegmentSpec)

/-- ITS FALSE NEIGHBOUR: 'it returns false'. Refute it at one input. -/
def fnSegmentWrong : ChangeSpec := { name := "fnSegment", fn := fun _ => fun
  | [d1, d2, d3, d4] => { results := [.lit (.bool false)], args := [d1, d2, d3, d4] }
  | _ => none }
def FnSegmentWrongFalsely : Prop := fnSegmentRow.holds Try.pinned (OpenSpec.ofChange fnSegmentWrong)

/-- 'laws.FnBoxRing': WHATEVER THE INPUT: true; the input reads as it did. -/
def fnBoxRingSpec : ChangeSpec := { name := "fnBoxRing", fn := fun _ => fun
  | [d1, d2] => { results := [.lit (.bool true)], args := [d1, d2] }
  | _ => none }
def fnBoxRingRow : OpenClaim := { program := "ytdkadjjapmcadaa", sum := "a85d875e8cbc2fdc3a43629f22207290d83770d8f586b1ea37e05833ed03840e", func := "loop.example/pub-g01503/laws.FnBoxRing", spec := "fnBoxRing", inPlace := ["math.archTrunc", "math.Float64bits", "math.Float64frombits", "math.archMin", "math.archMax"], apart := false }
def FnBoxRingSaid : Prop := fnBoxRingRow.holds Try.pinned (OpenSpec.ofChange fnBoxRingSpec)

/-- ITS FALSE NEIGHBOUR: 'it returns false'. Refute it at one input. -/
def fnBoxRingWrong : ChangeSpec := { name := "fnBoxRing", fn := fun _ => fun
  | [d1, d2] => { results := [.lit (.bool false)], args := [d1, d2] }
  | _ => none }
def FnBoxRingWrongFalsely : Prop := fnBoxRingRow.holds Try.pinned (OpenSpec.ofChange fnBoxRingWrong)

/-- 'laws.FnBoxUnion': WHATEVER THE INPUT: true; the input reads as it did. -/
def fnBoxUnionSpec : ChangeSpec := { name := "fnBoxUnion", fn := fun _ => fun
  | [d1, d2, d3, d4] => { results := [.lit (.bool true)], args := [d1, d2, d3, d4] }
  | _ => none }
def fnBoxUnionRow : OpenClaim := { program := "ytdkadjjapmcadaa", sum := "a85d875e8cbc2fdc3a43629f22207290d83770d8f586b1ea37e05833ed03840e", func := "loop.example/pub-g01503/laws.FnBoxUnion", spec := "fnBoxUnion", inPlace := ["math.archTrunc", "math.Float64bits", "math.Float64frombits", "math.archMin", "math.archMax"], apart := false }
def FnBoxUnionSaid : Prop := fnBoxUnionRow.holds Try.pinned (OpenSpec.ofChange fnBoxUnionSpec)

/-- ITS FALSE NEIGHBOUR: 'it returns false'. Refute it at one input. -/
def fnBoxUnionWrong : ChangeSpec := { name := "fnBoxUnion", fn := fun _ => fun
  | [d1, d2, d3, d4] => { results := [.lit (.bool false)], args := [d1, d2, d3, d4] }
  | _ => none }
def FnBoxUnionWrongFalsely : Prop := fnBoxUnionRow.holds Try.pinned (OpenSpec.ofChange fnBoxUnionWrong)

/-- 'laws.FnResampled': WHATEVER THE INPUT: true; the input reads as it did. -/
def fnResampledSpec : ChangeSpec := { name := "fnResampled", fn := fun _ => fun
  | [d1, d2, d3] => { results := [.lit (.bool true)], args := [d1, d2, d3] }
  | _ => none }
def fnResampledRow : OpenClaim := { program := "ytdkadjjapmcadaa", sum := "a85d875e8cbc2fdc3a43629f22207290d83770d8f586b1ea37e05833ed03840e", func := "loop.example/pub-g01503/laws.FnResampled", spec := "fnResampled", inPlace := ["math.sqrt", "math.archTrunc", "math.Float64bits", "math.Float64frombits"], unfollowed := true, recurses := true, apart := false }
def FnResampledSaid : Prop := fnResampledRow.holds Try.pinned (OpenSpec.ofChange fnResampledSpec)

/-- ITS FALSE NEIGHBOUR: 'it returns false'. Refute it at one input. -/
def fnResampledWrong : ChangeSpec := { name := "fnResampled", fn := fun _ => fun
  | [d1, d2, d3] => { results := [.lit (.bool false)], args := [d1, d2, d3] }
  | _ => none }
def FnResampledWrongFalsely : Prop := fnResampledRow.holds Try.pinned (OpenSpec.ofChange fnResampledWrong)

/- THE SECOND FORM. 'bulk': how many values and letters a reading holds, each counted each time it is reached (what is shared counts as often as it is met; a slice's spare places count too). A statement '..UptoSaid' is the law's where the arguments, and the package variables that the reading takes, are together of bulk at most 1048576: NARROWER than '..Said'. Prove '..Said' where nothing that the law and all that it calls make is longer than what came in: it says more and counts as full. Else prove '..UptoSaid'. A law counts once. -/
mutual
def uptoBulk {H : Type} : DataW H → Nat
  | .lit (.string bytes) => bytes.length + 1
  | .lit _ => 1
  | .nil => 1
  | .ptr d => uptoBulk d + 1
  | .slice elems spare => uptoBulkAll elems + uptoBulkAll spare + 1
  | .agg parts => uptoBulkAll parts + 1
  | .iface _ d => uptoBulk d + 1
  | .map entries => uptoBulkEntries entries + 1
  | .held _ => 1
def uptoBulkAll {H : Type} : List (DataW H) → Nat
  | [] => 0
  | d :: r => uptoBulk d + uptoBulkAll r
def uptoBulkEntries {H : Type} : List (Lit × DataW H) → Nat
  | [] => 0
  | x :: r => uptoBulkEntry x + uptoBulkEntries r
def uptoBulkEntry {H : Type} : Lit × DataW H → Nat
  | (.string bytes, d) => bytes.length + uptoBulk d + 1
  | (_, d) => uptoBulk d + 1
 end
def uptoSmall : (H : Type) → List (DataW H) → Bool := fun _ ds => decide (uptoBulkAll ds ≤ 1048576)
def OpenSpec.upto (s : _root_.Go.ChangeSpec) : _root_.Go.OpenSpec := { _root_.Go.OpenSpec.ofChange s with cond := some uptoSmall }

/-- 'laws.FnReversed', WHERE WHAT IT READS IS OF BULK AT MOST 1048576: true; the input reads as it did. -/
def fnReversedUptoRow : OpenClaim := { program := "ytdkadjjapmcadaa", sum := "a85d875e8cbc2fdc3a43629f22207290d83770d8f586b1ea37e05833ed03840e", func := "loop.example/pub-g01503/laws.FnReversed", spec := "fnReversed", inPlace := ["math.Float64bits"], apart := false, narrowed := true }
def FnReversedUptoSaid : Prop := fnReversedUptoRow.holds Try.pinned (OpenSpec.upto fnReversedSpec)

/-- 'laws.FnClosed', WHERE WHAT IT READS IS OF BULK AT MOST 1048576: true; the input reads as it did. -/
def fnClosedUptoRow : OpenClaim := { program := "ytdkadjjapmcadaa", sum := "a85d875e8cbc2fdc3a43629f22207290d83770d8f586b1ea37e05833ed03840e", func := "loop.example/pub-g01503/laws.FnClosed", spec := "fnClosed", inPlace := ["math.archTrunc", "math.Float64bits", "math.Float64frombits"], apart := false, narrowed := true }
def FnClosedUptoSaid : Prop := fnClosedUptoRow.holds Try.pinned (OpenSpec.upto fnClosedSpec)

/-- 'laws.FnBoxHas', WHERE WHAT IT READS IS OF BULK AT MOST 1048576: true; the input reads as it did. -/
def fnBoxHasUptoRow : OpenClaim := { program := "ytdkadjjapmcadaa", sum := "a85d875e8cbc2fdc3a43629f22207290d83770d8f586b1ea37e05833ed03840e", func := "loop.example/pub-g01503/laws.FnBoxHas", spec := "fnBoxHas", inPlace := ["math.archTrunc", "math.Float64bits", "math.Float64frombits"], apart := false, narrowed := true }
def FnBoxHasUptoSaid : Prop := fnBoxHasUptoRow.holds Try.pinned (OpenSpec.upto fnBoxHasSpec)

/-- 'laws.FnBoxesMeet', WHERE WHAT IT READS IS OF BULK AT MOST 1048576: true; the input reads as it did. -/
def fnBoxesMeetUptoRow : OpenClaim := { program := "ytdkadjjapmcadaa", sum := "a85d875e8cbc2fdc3a43629f22207290d83770d8f586b1ea37e05833ed03840e", func := "loop.example/pub-g01503/laws.FnBoxesMeet", spec := "fnBoxesMeet", inPlace := ["math.archTrunc", "math.Float64bits", "math.Float64frombits"], apart := false, narrowed := true }
def FnBoxesMeetUptoSaid : Prop := fnBoxesMeetUptoRow.holds Try.pinned (OpenSpec.upto fnBoxesMeetSpec)

/-- 'laws.FnOrientation', WHERE WHAT IT READS IS OF BULK AT MOST 1048576: true; the input reads as it did. -/
def fnOrientationUptoRow : OpenClaim := { program := "ytdkadjjapmcadaa", sum := "a85d875e8cbc2fdc3a43629f22207290d83770d8f586b1ea37e05833ed03840e", func := "loop.example/pub-g01503/laws.FnOrientation", spec := "fnOrientation", inPlace := ["math.archTrunc", "math.Float64bits", "math.Float64frombits"], apart := false, narrowed := true }
def FnOrientationUptoSaid : Prop := fnOrientationUptoRow.holds Try.pinned (OpenSpec.upto fnOrientationSpec)

/-- 'laws.FnDistance', WHERE WHAT IT READS IS OF BULK AT MOST 1048576: true; the input reads as it did. -/
def fnDistanceUptoRow : OpenClaim := { program := "ytdkadjjapmcadaa", sum := "a85d875e8cbc2fdc3a43629f22207290d83770d8f586b1ea37e05833ed03840e", func := "loop.example/pub-g01503/laws.FnDistance", spec := "fnDistance", inPlace := ["math.sqrt", "math.archTrunc", "math.Float64bits", "math.Float64frombits"], apart := false, narrowed := true }
def FnDistanceUptoSaid : Prop := fnDistanceUptoRow.holds Try.pinned (OpenSpec.upto fnDistanceSpec)

/-- 'laws.FnSegmentAny', WHERE WHAT IT READS IS OF BULK AT MOST 1048576: true; the input reads as it did. -/
def fnSegmentAnyUptoRow : OpenClaim := { program := "ytdkadjjapmcadaa", sum := "a85d875e8cbc2fdc3a43629f22207290d83770d8f586b1ea37e05833ed03840e", func := "loop.example/pub-g01503/laws.FnSegmentAny", spec := "fnSegmentAny", inPlace := ["math.archTrunc", "math.Float64bits", "math.Float64frombits", "math.sqrt"], apart := false, narrowed := true }
def FnSegmentAnyUptoSaid : Prop := fnSegmentAnyUptoRow.holds Try.pinned (OpenSpec.upto fnSegmentAnySpec)

/-- 'laws.FnSegment', WHERE WHAT IT READS IS OF BULK AT MOST 1048576: true; the input reads as it did. -/
def fnSegmentUptoRow : OpenClaim := { program := "ytdkadjjapmcadaa", sum := "a85d875e8cbc2fdc3a43629f22207290d83770d8f586b1ea37e05833ed03840e", func := "loop.example/pub-g01503/laws.FnSegment", spec := "fnSegment", inPlace := ["math.archTrunc", "math.Float64bits", "math.Float64frombits", "math.archMin", "math.archMax"], apart := false, narrowed := true }
def FnSegmentUptoSaid : Prop := fnSegmentUptoRow.holds Try.pinned (OpenSpec.upto fnSegmentSpec)

/-- 'laws.FnBoxRing', WHERE WHAT IT READS IS OF BULK AT MOST 1048576: true; the input reads as it did. -/
def fnBoxRingUptoRow : OpenClaim := { program := "ytdkadjjapmcadaa", sum := "a85d875e8cbc2fdc3a43629f22207290d83770d8f586b1ea37e05833ed03840e", func := "loop.example/pub-g01503/laws.FnBoxRing", spec := "fnBoxRing", inPlace := ["math.archTrunc", "math.Float64bits", "math.Float64frombits", "math.archMin", "math.archMax"], apart := false, narrowed := true }
def FnBoxRingUptoSaid : Prop := fnBoxRingUptoRow.holds Try.pinned (OpenSpec.upto fnBoxRingSpec)

/-- 'laws.FnBoxUnion', WHERE WHAT IT READS IS OF BULK AT MOST 1048576: true; the input reads as it did. -/
def fnBoxUnionUptoRow : OpenClaim := { program := "ytdkadjjapmcadaa", sum := "a85d875e8cbc2fdc3a43629f22207290d83770d8f586b1ea37e05833ed03840e", func := "loop.example/pub-g01503/laws.FnBoxUnion", spec := "fnBoxUnion", inPlace := ["math.archTrunc", "math.Float64bits", "math.Float64frombits", "math.archMin", "math.archMax"], apart := false, narrowed := true }
def FnBoxUnionUptoSaid : Prop := fnBoxUnionUptoRow.holds Try.pinned (OpenSpec.upto fnBoxUnionSpec)

/-- 'laws.FnResampled', WHERE WHAT IT READS IS OF BULK AT MOST 1048576: true; the input reads as it did. -/
def fnResampledUptoRow : OpenClaim := { program := "ytdkadjjapmcadaa", sum := "a85d875e8cbc2fdc3a43629f22207290d83770d8f586b1ea37e05833ed03840e", func := "loop.example/pub-g01503/laws.FnResampled", spec := "fnResampled", inPlace := ["math.sqrt", "math.archTrunc", "math.Float64bits", "math.Float64frombits"], unfollowed := true, recurses := true, apart := false, narrowed := true }
def FnResampledUptoSaid : Prop := fnResampledUptoRow.holds Try.pinned (OpenSpec.upto fnResampledSpec)

end Rows
end Go.Proofs.Ytdkadjjapmcadaa
