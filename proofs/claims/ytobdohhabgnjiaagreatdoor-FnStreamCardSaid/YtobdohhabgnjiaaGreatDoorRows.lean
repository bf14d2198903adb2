/-
  NARROWER THAN 'FOR EVERY INPUT', by the rows' own cells (each row's printed sentence says how): FnStream: loops, ifaces, laid.
  DERIVED. THE GIVEN ROWS OF THIS SEAT. 1 by the template 'for every input the law returns true; each argument reads behind the call as it read before'; 0 by the template 'total and deterministic' (their statements: YtobdohhabgnjiaaGreatDoorTotals.lean).
  GIVEN WITH THE SEED: the statements are not yours to turn. If you find one false, say at which input.
  Laid BY PROGRAM, IN A SANDBOX (cutbox-rows.mjs): the forced cells as the released guide's own fill.sh prints them over the translation 3c02730c1dc3a980… (all of the seat's roots in one cut). By AI agents, Wed Nov 11 2026. No macro, syntax, notation, axiom, sorry.
-/
import Derived.Test.YtobdohhabgnjiaaGreatDoorChecked
import GoSem.Claim
import GoSem.ClaimJoined
import GoSem.ClaimMapViews
import Derived.JoinedTies
import Derived.KernelRfl
namespace Go.Proofs.YtobdohhabgnjiaaGreatDoor
/- THE CELL 'sum', in the pinned program and in every row, IS THE sha256 OF THE DUMP (.gsa) THAT YtobdohhabgnjiaaGreatDoorProg.lean LOADS. Nothing in Lean hashes anything: it is a label: what it is worth is what the hold of that sum in a sandbox is worth. -/
noncomputable def Tryz.pinned : Pinned := { name := "ytobdohhabgnjiaagreatdoor", sum := "3c02730c1dc3a9800789f2ff12f141f5e3e906b899c570bde2f1e1e00b648295", checked := Tryz.checked }
namespace Rows
def none {H : Type} : Left H := { results := [], args := [] }

/- WHAT THE LISTED PACKAGE-LEVEL VARIABLES READ AS WHEN THE CALL BEGINS. Each datum BY PROGRAM (the guide's laid-datum.mjs) off the statement by which the dump's own 'gosem.cut.vars' lays the variable. In a bare row this is a premise. The card (YtobdohhabgnjiaaGreatDoorCards.lean) ties it to the program's text. -/
def laid_io_ErrShortBuffer {H : Type} : DataW H := .iface "*errors.errorString" (.ptr (.agg [.lit (.string [115, 104, 111, 114, 116, 32, 98, 117, 102, 102, 101, 114])]))
def laid_io_EOF {H : Type} : DataW H := .iface "*errors.errorString" (.ptr (.agg [.lit (.string [69, 79, 70])]))
def laid_io_ErrUnexpectedEOF {H : Type} : DataW H := .iface "*errors.errorString" (.ptr (.agg [.lit (.string [117, 110, 101, 120, 112, 101, 99, 116, 101, 100, 32, 69, 79, 70])]))
def laid_loop_example_pub_g01503_pub_orbwkbcommon_ErrUnsupportedDataType {H : Type} : DataW H := .iface "*errors.errorString" (.ptr (.agg [.lit (.string [119, 107, 98, 99, 111, 109, 109, 111, 110, 58, 32, 115, 99, 97, 110, 32, 118, 97, 108, 117, 101, 32, 109, 117, 115, 116, 32, 98, 101, 32, 91, 93, 98, 121, 116, 101])]))
def laid_loop_example_pub_g01503_pub_orbwkbcommon_ErrNotWKB {H : Type} : DataW H := .iface "*errors.errorString" (.ptr (.agg [.lit (.string [119, 107, 98, 99, 111, 109, 109, 111, 110, 58, 32, 105, 110, 118, 97, 108, 105, 100, 32, 100, 97, 116, 97])]))
def laid_loop_example_pub_g01503_pub_orbwkbcommon_ErrNotWKBHeader {H : Type} : DataW H := .iface "*errors.errorString" (.ptr (.agg [.lit (.string [119, 107, 98, 99, 111, 109, 109, 111, 110, 58, 32, 105, 110, 118, 97, 108, 105, 100, 32, 104, 101, 97, 100, 101, 114, 32, 100, 97, 116, 97])]))
def laid_loop_example_pub_g01503_pub_orbwkbcommon_ErrIncorrectGeometry {H : Type} : DataW H := .iface "*errors.errorString" (.ptr (.agg [.lit (.string [119, 107, 98, 99, 111, 109, 109, 111, 110, 58, 32, 105, 110, 99, 111, 114, 114, 101, 99, 116, 32, 103, 101, 111, 109, 101, 116, 114, 121])]))
def laid_loop_example_pub_g01503_pub_orbwkbcommon_ErrUnsupportedGeometry {H : Type} : DataW H := .iface "*errors.errorString" (.ptr (.agg [.lit (.string [119, 107, 98, 99, 111, 109, 109, 111, 110, 58, 32, 117, 110, 115, 117, 112, 112, 111, 114, 116, 101, 100, 32, 103, 101, 111, 109, 101, 116, 114, 121])]))
def laid_loop_example_pub_g01503_pub_orbwkb_ErrUnsupportedDataType {H : Type} : DataW H := .iface "*errors.errorString" (.ptr (.agg [.lit (.string [119, 107, 98, 58, 32, 115, 99, 97, 110, 32, 118, 97, 108, 117, 101, 32, 109, 117, 115, 116, 32, 98, 101, 32, 91, 93, 98, 121, 116, 101])]))
def laid_loop_example_pub_g01503_pub_orbwkb_ErrNotWKB {H : Type} : DataW H := .iface "*errors.errorString" (.ptr (.agg [.lit (.string [119, 107, 98, 58, 32, 105, 110, 118, 97, 108, 105, 100, 32, 100, 97, 116, 97])]))
def laid_loop_example_pub_g01503_pub_orbwkb_ErrIncorrectGeometry {H : Type} : DataW H := .iface "*errors.errorString" (.ptr (.agg [.lit (.string [119, 107, 98, 58, 32, 105, 110, 99, 111, 114, 114, 101, 99, 116, 32, 103, 101, 111, 109, 101, 116, 114, 121])]))
def laid_loop_example_pub_g01503_pub_orbwkb_ErrUnsupportedGeometry {H : Type} : DataW H := .iface "*errors.errorString" (.ptr (.agg [.lit (.string [119, 107, 98, 58, 32, 117, 110, 115, 117, 112, 112, 111, 114, 116, 101, 100, 32, 103, 101, 111, 109, 101, 116, 114, 121])]))

/-- 'laws.FnStream': WHATEVER THE INPUT: true; the input reads as it did. -/
def fnStreamSpec : ChangeSpec := { name := "fnStream", vars := ["loop.example/pub-g01503/pub/orbwkbcommon.ErrNotWKB", "loop.example/pub-g01503/pub/orbwkbcommon.ErrUnsupportedGeometry", "loop.example/pub-g01503/pub/orbwkbcommon.ErrNotWKBHeader", "loop.example/pub-g01503/pub/orbwkbcommon.ErrIncorrectGeometry", "loop.example/pub-g01503/pub/orbwkbcommon.ErrUnsupportedDataType", "loop.example/pub-g01503/pub/orbwkb.ErrUnsupportedDataType", "loop.example/pub-g01503/pub/orbwkb.ErrNotWKB", "loop.example/pub-g01503/pub/orbwkb.ErrIncorrectGeometry", "loop.example/pub-g01503/pub/orbwkb.ErrUnsupportedGeometry"], fn := fun _ => fun
  | [d1, d2, g1, g2, g3, g4, g5, g6, g7, g8, g9] => { results := [.lit (.bool true)], args := [d1, d2], vars := [g1, g2, g3, g4, g5, g6, g7, g8, g9] }
  | _ => none }
def fnStreamRow : OpenClaim := { program := "ytobdohhabgnjiaagreatdoor", sum := "3c02730c1dc3a9800789f2ff12f141f5e3e906b899c570bde2f1e1e00b648295", func := "loop.example/pub-g01503/laws.FnStream", spec := "fnStream", inPlace := ["math.Float64bits", "math.Float64frombits"], unfollowed := true, recurses := true, named := ["io.EOF", "io.ErrUnexpectedEOF", "loop.example/pub-g01503/pub/orbwkbcommon.ErrNotWKB", "loop.example/pub-g01503/pub/orbwkbcommon.ErrUnsupportedGeometry", "loop.example/pub-g01503/pub/orbwkbcommon.ErrNotWKBHeader", "loop.example/pub-g01503/pub/orbwkbcommon.ErrIncorrectGeometry", "io.ErrShortBuffer", "loop.example/pub-g01503/pub/orbwkbcommon.ErrUnsupportedDataType", "loop.example/pub-g01503/pub/orbwkb.ErrUnsupportedDataType", "loop.example/pub-g01503/pub/orbwkb.ErrNotWKB", "loop.example/pub-g01503/pub/orbwkb.ErrIncorrectGeometry", "loop.example/pub-g01503/pub/orbwkb.ErrUnsupportedGeometry"], ifaces := true, loops := true, apart := false, laid := [("io.ErrShortBuffer", laid_io_ErrShortBuffer), ("io.EOF", laid_io_EOF), ("io.ErrUnexpectedEOF", laid_io_ErrUnexpectedEOF), ("loop.example/pub-g01503/pub/orbwkbcommon.ErrUnsupportedDataType", laid_loop_example_pub_g01503_pub_orbwkbcommon_ErrUnsupportedDataType), ("loop.example/pub-g01503/pub/orbwkbcommon.ErrNotWKB", laid_loop_example_pub_g01503_pub_orbwkbcommon_ErrNotWKB), ("loop.example/pub-g01503/pub/orbwkbcommon.ErrNotWKBHeader", laid_loop_example_pub_g01503_pub_orbwkbcommon_ErrNotWKBHeader), ("loop.example/pub-g01503/pub/orbwkbcommon.ErrIncorrectGeometry", laid_loop_example_pub_g01503_pub_orbwkbcommon_ErrIncorrectGeometry), ("loop.example/pub-g01503/pub/orbwkbcommon.ErrUnsupportedGeometry", laid_loop_example_pub_g01503_pub_orbwkbcommon_ErrUnsupportedGeometry), ("loop.example/pub-g01503/pub/orbwkb.ErrUnsupportedDataType", laid_loop_example_pub_g01503_pub_orbwkb_ErrUnsupportedDataType), ("loop.example/pub-g01503/pub/orbwkb.ErrNotWKB", laid_loop_example_pub_g01503_pub_orbwkb_ErrNotWKB), ("loop.example/pub-g01503/pub/orbwkb.ErrIncorrectGeometry", laid_loop_example_pub_g01503_pub_orbwkb_ErrIncorrectGeometry), ("loop.example/pub-g01503/pub/orbwkb.ErrUnsupportedGeometry", laid_loop_example_pub_g01503_pub_orbwkb_ErrUnsupportedGeometry)] }
def FnStreamSaid : Prop := fnStreamRow.holds Tryz.pinned (OpenSpec.ofChange fnStreamSpec)

/-- ITS FALSE NEIGHBOUR: 'it returns false'. Refute it at one input. -/
def fnStreamWrong : ChangeSpec := { name := "fnStream", vars := ["loop.example/pub-g01503/pub/orbwkbcommon.ErrNotWKB", "loop.example/pub-g01503/pub/orbwkbcommon.ErrUnsupportedGeometry", "loop.example/pub-g01503/pub/orbwkbcommon.ErrNotWKBHeader", "loop.example/pub-g01503/pub/orbwkbcommon.ErrIncorrectGeometry", "loop.example/pub-g01503/pub/orbwkbcommon.ErrUnsupportedDataType", "loop.example/pub-g01503/pub/orbwkb.ErrUnsupportedDataType", "loop.example/pub-g01503/pub/orbwkb.ErrNotWKB", "loop.example/pub-g01503/pub/orbwkb.ErrIncorrectGeometry", "loop.example/pub-g01503/pub/orbwkb.ErrUnsupportedGeometry"], fn := fun _ => fun
  | [d1, d2, g1, g2, g3, g4, g5, g6, g7, g8, g9] => { results := [.lit (.bool false)], args := [d1, d2], vars := [g1, g2, g3, g4, g5, g6, g7, g8, g9] }
  | _ => none }
def FnStreamWrongFalsely : Prop := fnStreamRow.holds Tryz.pinned (OpenSpec.ofChange fnStreamWrong)

/- THE SECOND FORM. 'bulk': how many values and letters a reading holds, each counted each time it is reached (what is shared counts as often as it is met; a slice's spare places count too). A statement '..UptoSaid' is the law's where the arguments, and the package variables that the reading takes, are together of bulk at most 1048576: NARROWER than '..Said'. Prove '..Said' where nothing that the law and all that it calls make is longer than what came in: it says more and counts as full. Else prove '..UptoSaid'. A law counts once. -/
mutual
def uptoBulk {H : Type} : DataW H → Nat
  | .lit (.string bytes) => bytes.length + 1
  | .lit _ => 1
  | .nil => 1
  | .ptr d => uptoBulk d + 1
  | .slice elems spare => uptoBulkAll elems + uptoBulkAll spare + 1
  | .agg parts => uptoBulkAll parts + 1
  | .iface _ d => uptoBulk d + 1
  | .map entries => uptoBulkEntries entries + 1
  | .held _ => 1
def uptoBulkAll {H : Type} : List (DataW H) → Nat
  | [] => 0
  | d :: r => uptoBulk d + uptoBulkAll r
def uptoBulkEntries {H : Type} : List (Lit × DataW H) → Nat
  | [] => 0
  | x :: r => uptoBulkEntry x + uptoBulkEntries r
def uptoBulkEntry {H : Type} : Lit × DataW H → Nat
  | (.string bytes, d) => bytes.length + uptoBulk d + 1
  | (_, d) => uptoBulk d + 1
 end
def uptoSmall : (H : Type) → List (DataW H) → Bool := fun _ ds => decide (uptoBulkAll ds ≤ 1048576)
def OpenSpec.upto (s : _root_.Go.ChangeSpec) : _root_.Go.OpenSpec := { _root_.Go.OpenSpec.ofChange s with cond := some uptoSmall }

/-- 'laws.FnStream', WHERE WHAT IT READS IS OF BULK AT MOST 1048576: true; the input reads as it did. -/
def fnStreamUptoRow : OpenClaim := { program := "ytobdohhabgnjiaagreatdoor", sum := "3c02730c1dc3a9800789f2ff12f141f5e3e906b899c570bde2f1e1e00b648295", func := "loop.example/pub-g01503/laws.FnStream", spec := "fnStream", inPlace := ["math.Float64bits", "math.Float64frombits"], unfollowed := true, recurses := true, named := ["io.EOF", "io.ErrUnexpectedEOF", "loop.example/pub-g01503/pub/orbwkbcommon.ErrNotWKB", "loop.example/pub-g01503/pub/orbwkbcommon.ErrUnsupportedGeometry", "loop.example/pub-g01503/pub/orbwkbcommon.ErrNotWKBHeader", "loop.example/pub-g01503/pub/orbwkbcommon.ErrIncorrectGeometry", "io.ErrShortBuffer", "loop.example/pub-g01503/pub/orbwkbcommon.ErrUnsupportedDataType", "loop.example/pub-g01503/pub/orbwkb.ErrUnsupportedDataType", "loop.example/pub-g01503/pub/orbwkb.ErrNotWKB", "loop.example/pub-g01503/pub/orbwkb.ErrIncorrectGeometry", "loop.example/pub-g01503/pub/orbwkb.ErrUnsupportedGeometry"], ifaces := true, loops := true, apart := false, laid := [("io.ErrShortBuffer", laid_io_ErrShortBuffer), ("io.EOF", laid_io_EOF), ("io.ErrUnexpectedEOF", laid_io_ErrUnexpectedEOF), ("loop.example/pub-g01503/pub/orbwkbcommon.ErrUnsupportedDataType", laid_loop_example_pub_g01503_pub_orbwkbcommon_ErrUnsupportedDataType), ("loop.example/pub-g01503/pub/orbwkbcommon.ErrNotWKB", laid_loop_example_pub_g01503_pub_orbwkbcommon_ErrNotWKB), ("loop.example/pub-g01503/pub/orbwkbcommon.ErrNotWKBHeader", laid_loop_example_pub_g01503_pub_orbwkbcommon_ErrNotWKBHeader), ("loop.example/pub-g01503/pub/orbwkbcommon.ErrIncorrectGeometry", laid_loop_example_pub_g01503_pub_orbwkbcommon_ErrIncorrectGeometry), ("loop.example/pub-g01503/pub/orbwkbcommon.ErrUnsupportedGeometry", laid_loop_example_pub_g01503_pub_orbwkbcommon_ErrUnsupportedGeometry), ("loop.example/pub-g01503/pub/orbwkb.ErrUnsupportedDataType", laid_loop_example_pub_g01503_pub_orbwkb_ErrUnsupportedDataType), ("loop.example/pub-g01503/pub/orbwkb.ErrNotWKB", laid_loop_example_pub_g01503_pub_orbwkb_ErrNotWKB), ("loop.example/pub-g01503/pub/orbwkb.ErrIncorrectGeometry", laid_loop_example_pub_g01503_pub_orbwkb_ErrIncorrectGeometry), ("loop.example/pub-g01503/pub/orbwkb.ErrUnsupportedGeometry", laid_loop_example_pub_g01503_pub_orbwkb_ErrUnsupportedGeometry)], narrowed := true }
def FnStreamUptoSaid : Prop := fnStreamUptoRow.holds Tryz.pinned (OpenSpec.upto fnStreamSpec)

end Rows
end Go.Proofs.YtobdohhabgnjiaaGreatDoor
