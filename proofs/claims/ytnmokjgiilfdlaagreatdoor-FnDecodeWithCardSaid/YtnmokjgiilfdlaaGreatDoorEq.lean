/-
  Equality of points (structs and arrays of two floats), as the model reckons it.
-/
import Derived.Test.YtnmokjgiilfdlaaGreatDoorWm
import Derived.Laws.StructEq
set_option linter.all false
namespace Go.Proofs.YtnmokjgiilfdlaaGreatDoor
open PubFl

section
variable {P : Program}
end

end Go.Proofs.YtnmokjgiilfdlaaGreatDoor
