/-
  A list of points that came in, opened.
-/
import Derived.Test.YtobdohhabgnjiaaGreatDoorOpen
import Derived.Test.YtobdohhabgnjiaaGreatDoorLine
import Derived.Deep.SlicePairs
set_option linter.all false
namespace Go.Proofs.YtobdohhabgnjiaaGreatDoor
open PubFl Go.ChangeShapes Go.WideShapes Go.ChangeAt Go.RowKit Go.Joins Go.Deep

section
variable {H : Type} {enc : TypeId × Value → H} {P : Program} {w : World}
end
end Go.Proofs.YtobdohhabgnjiaaGreatDoor
