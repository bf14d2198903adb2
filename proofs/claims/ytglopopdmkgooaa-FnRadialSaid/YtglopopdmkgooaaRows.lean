/-
  No cell of these rows narrows 'for every input' (looked for: loops, veiled, ifaces, maps, wideKeys, modest, calm, conditions, laid).
  DERIVED. THE GIVEN ROWS OF THIS SEAT. 4 by the template 'for every input the law returns true; each argument reads behind the call as it read before'; 0 by the template 'total and deterministic' (their statements: YtglopopdmkgooaaTotals.lean).
  GIVEN WITH THE SEED: the statements are not yours to turn. If you find one false, say at which input.
  Laid BY PROGRAM, IN A SANDBOX (cutbox-rows.mjs): the forced cells as the released guide's own fill.sh prints them over the translation c91858e236fda440… (all of the seat's roots in one cut). By AI agents, Wed Nov 11 2026. No macro, syntax, notation, axiom, sorry.
-/
import Derived.Test.YtglopopdmkgooaaChecked
import GoSem.Claim
import GoSem.ClaimJoined
import GoSem.ClaimMapViews
import Derived.JoinedTies
import Derived.KernelRfl
namespace Go.Proofs.Ytglopopdmkgooaa
/- THE CELL 'sum', in the pinned program and in every row, IS THE sha256 OF THE DUMP (.gsa) THAT YtglopopdmkgooaaProg.lean LOADS. Nothing in Lean hashes anything: it is a label: what it is worth is what the hold of that sum in a sandbox is worth. -/
noncomputable def Try.pinned : Pinned := { name := "ytglopopdmkgooaa", sum := "c91858e236fda440963c1c6e71e1de8a09ec192a6bd63efd323b4906fd750143", checked := Try.checked }
namespace Rows
def none {H : Type} : Left H := { results := [], args := [] }

/-- 'laws.FnKeepByAreas': WHATEVER THE INPUT: true; the input reads as it did. -/
def fnKeepByAreasSpec : ChangeSpec := { name := "fnKeepByAreas", fn := fun _ => fun
  | [d1, d2] => { results := [.lit (.bool true)], args := [d1, d2] }
  | _ => none }
def fnKeepByAreasRow : OpenClaim := { program := "ytglopopdmkgooaa", sum := "c91858e236fda440963c1c6e71e1de8a09ec192a6bd63efd323b4906fd750143", func := "loop.example/pub-g01503/laws.FnKeepByAreas", spec := "fnKeepByAreas", inPlace := ["math.archTrunc", "math.Float64bits", "math.Float64frombits"], unfollowed := true, recurses := true, apart := false }
def FnKeepByAreasSaid : Prop := fnKeepByAreasRow.holds Try.pinned (OpenSpec.ofChange fnKeepByAreasSpec)

/-- ITS FALSE NEIGHBOUR: 'it returns false'. Refute it at one input. -/
def fnKeepByAreasWrong : ChangeSpec := { name := "fnKeepByAreas", fn := fun _ => fun
  | [d1, d2] => { results := [.lit (.bool false)], args := [d1, d2] }
  | _ => none }
def FnKeepByAreasWrongFalsely : Prop := fnKeepByAreasRow.holds Try.pinned (OpenSpec.ofChange fnKeepByAreasWrong)

/-- 'laws.FnPeuckerNear': WHATEVER THE INPUT: true; the input reads as it did. -/
def fnPeuckerNearSpec : ChangeSpec := { name := "fnPeuckerNear", fn := fun _ => fun
  | [d1, d2] => { results := [.lit (.bool true)], args := [d1, d2] }
  | _ => none }
def fnPeuckerNearRow : OpenClaim := { program := "ytglopopdmkgooaa", sum := "c91858e236fda440963c1c6e71e1de8a09ec192a6bd63efd323b4906fd750143", func := "loop.example/pub-g01503/laws.FnPeuckerNear", spec := "fnPeuckerNear", inPlace := ["math.archTrunc", "math.Float64bits", "math.Float64frombits"], unfollowed := true, recurses := true, apart := false }
def FnPeuckerNearSaid : Prop := fnPeuckerNearRow.holds Try.pinned (OpenSpec.ofChange fnPeuckerNearSpec)

/-- ITS FALSE NEIGHBOUR: 'it returns false'. Refute it at one input. -/
def fnPeuckerNearWrong : ChangeSpec := { name := "fnPeuckerNear", fn := fun _ => fun
  | [d1, d2] => { results := [.lit (.bool false)], args := [d1, d2] }
  | _ => none }
def FnPeuckerNearWrongFalsely : Prop := fnPeuckerNearRow.holds Try.pinned (OpenSpec.ofChange fnPeuckerNearWrong)

/-- 'laws.FnByAreas': WHATEVER THE INPUT: true; the input reads as it did. -/
def fnByAreasSpec : ChangeSpec := { name := "fnByAreas", fn := fun _ => fun
  | [d1, d2, d3] => { results := [.lit (.bool true)], args := [d1, d2, d3] }
  | _ => none }
def fnByAreasRow : OpenClaim := { program := "ytglopopdmkgooaa", sum := "c91858e236fda440963c1c6e71e1de8a09ec192a6bd63efd323b4906fd750143", func := "loop.example/pub-g01503/laws.FnByAreas", spec := "fnByAreas", inPlace := ["math.archTrunc", "math.Float64bits", "math.Float64frombits"], unfollowed := true, recurses := true, apart := false }
def FnByAreasSaid : Prop := fnByAreasRow.holds Try.pinned (OpenSpec.ofChange fnByAreasSpec)

/-- ITS FALSE NEIGHBOUR: 'it returns false'. Refute it at one input. -/
def fnByAreasWrong : ChangeSpec := { name := "fnByAreas", fn := fun _ => fun
  | [d1, d2, d3] => { results := [.lit (.bool false)], args := [d1, d2, d3] }
  | _ => none }
def FnByAreasWrongFalsely : Prop := fnByAreasRow.holds Try.pinned (OpenSpec.ofChange fnByAreasWrong)

/-- 'laws.FnRadial': WHATEVER THE INPUT: true; the input reads as it did. -/
def fnRadialSpec : ChangeSpec := { name := "fnRadial", fn := fun _ => fun
  | [d1, d2] => { results := [.lit (.bool true)], args := [d1, d2] }
  | _ => none }
def fnRadialRow : OpenClaim := { program := "ytglopopdmkgooaa", sum := "c91858e236fda440963c1c6e71e1de8a09ec192a6bd63efd323b4906fd750143", func := "loop.example/pub-g01503/laws.FnRadial", spec := "fnRadial", inPlace := ["math.archTrunc", "math.Float64bits", "math.Float64frombits", "math.sqrt"], unfollowed := true, recurses := true, apart := false }
def FnRadialSaid : Prop := fnRadialRow.holds Try.pinned (OpenSpec.ofChange fnRadialSpec)

/-- ITS FALSE NEIGHBOUR: 'it returns false'. Refute it at one input. -/
def fnRadialWrong : ChangeSpec := { name := "fnRadial", fn := fun _ => fun
  | [d1, d2] => { results := [.lit (.bool false)], args := [d1, d2] }
  | _ => none }
def FnRadialWrongFalsely : Prop := fnRadialRow.holds Try.pinned (OpenSpec.ofChange fnRadialWrong)

/- THE SECOND FORM. 'bulk': how many values and letters a reading holds, each counted each time it is reached (what is shared counts as often as it is met; a slice's spare places count too). A statement '..UptoSaid' is the law's where the arguments, and the package variables that the reading takes, are together of bulk at most 1048576: NARROWER than '..Said'. Prove '..Said' where nothing that the law and all that it calls make is longer than what came in: it says more and counts as full. Else prove '..UptoSaid'. A law counts once. -/
mutual
def uptoBulk {H : Type} : DataW H → Nat
  | .lit (.string bytes) => bytes.length + 1
  | .lit _ => 1
  | .nil => 1
  | .ptr d => uptoBulk d + 1
  | .slice elems spare => uptoBulkAll elems + uptoBulkAll spare + 1
  | .agg parts => uptoBulkAll parts + 1
  | .iface _ d => uptoBulk d + 1
  | .map entries => uptoBulkEntries entries + 1
  | .held _ => 1
def uptoBulkAll {H : Type} : List (DataW H) → Nat
  | [] => 0
  | d :: r => uptoBulk d + uptoBulkAll r
def uptoBulkEntries {H : Type} : List (Lit × DataW H) → Nat
  | [] => 0
  | x :: r => uptoBulkEntry x + uptoBulkEntries r
def uptoBulkEntry {H : Type} : Lit × DataW H → Nat
  | (.string bytes, d) => bytes.length + uptoBulk d + 1
  | (_, d) => uptoBulk d + 1
 end
def uptoSmall : (H : Type) → List (DataW H) → Bool := fun _ ds => decide (uptoBulkAll ds ≤ 1048576)
def OpenSpec.upto (s : _root_.Go.ChangeSpec) : _root_.Go.OpenSpec := { _root_.Go.OpenSpec.ofChange s with cond := some uptoSmall }

/-- 'laws.FnKeepByAreas', WHERE WHAT IT READS IS OF BULK AT MOST 1048576: true; the input reads as it did. -/
def fnKeepByAreasUptoRow : OpenClaim := { program := "ytglopopdmkgooaa", sum := "c91858e236fda440963c1c6e71e1de8a09ec192a6bd63efd323b4906fd750143", func := "loop.example/pub-g01503/laws.FnKeepByAreas", spec := "fnKeepByAreas", inPlace := ["math.archTrunc", "math.Float64bits", "math.Float64frombits"], unfollowed := true, recurses := true, apart := false, narrowed := true }
def FnKeepByAreasUptoSaid : Prop := fnKeepByAreasUptoRow.holds Try.pinned (OpenSpec.upto fnKeepByAreasSpec)

/-- 'laws.FnPeuckerNear', WHERE WHAT IT READS IS OF BULK AT MOST 1048576: true; the input reads as it did. -/
def fnPeuckerNearUptoRow : OpenClaim := { program := "ytglopopdmkgooaa", sum := "c91858e236fda440963c1c6e71e1de8a09ec192a6bd63efd323b4906fd750143", func := "loop.example/pub-g01503/laws.FnPeuckerNear", spec := "fnPeuckerNear", inPlace := ["math.archTrunc", "math.Float64bits", "math.Float64frombits"], unfollowed := true, recurses := true, apart := false, narrowed := true }
def FnPeuckerNearUptoSaid : Prop := fnPeuckerNearUptoRow.holds Try.pinned (OpenSpec.upto fnPeuckerNearSpec)

/-- 'laws.FnByAreas', WHERE WHAT IT READS IS OF BULK AT MOST 1048576: true; the input reads as it did. -/
def fnByAreasUptoRow : OpenClaim := { program := "ytglopopdmkgooaa", sum := "c91858e236fda440963c1c6e71e1de8a09ec192a6bd63efd323b4906fd750143", func := "loop.example/pub-g01503/laws.FnByAreas", spec := "fnByAreas", inPlace := ["math.archTrunc", "math.Float64bits", "math.Float64frombits"], unfollowed := true, recurses := true, apart := false, narrowed := true }
def FnByAreasUptoSaid : Prop := fnByAreasUptoRow.holds Try.pinned (OpenSpec.upto fnByAreasSpec)

/-- 'laws.FnRadial', WHERE WHAT IT READS IS OF BULK AT MOST 1048576: true; the input reads as it did. -/
def fnRadialUptoRow : OpenClaim := { program := "ytglopopdmkgooaa", sum := "c91858e236fda440963c1c6e71e1de8a09ec192a6bd63efd323b4906fd750143", func := "loop.example/pub-g01503/laws.FnRadial", spec := "fnRadial", inPlace := ["math.archTrunc", "math.Float64bits", "math.Float64frombits", "math.sqrt"], unfollowed := true, recurses := true, apart := false, narrowed := true }
def FnRadialUptoSaid : Prop := fnRadialUptoRow.holds Try.pinned (OpenSpec.upto fnRadialSpec)

end Rows
end Go.Proofs.Ytglopopdmkgooaa
