/-
  Equality of points (structs and arrays of two floats), as the model reckons it.
-/
import Derived.Test.YtobdohhabgnjiaaGreatDoorWm
import Derived.Laws.StructEq
set_option linter.all false
namespace Go.Proofs.YtobdohhabgnjiaaGreatDoor
open PubFl

section
variable {P : Program}
end

end Go.Proofs.YtobdohhabgnjiaaGreatDoor
