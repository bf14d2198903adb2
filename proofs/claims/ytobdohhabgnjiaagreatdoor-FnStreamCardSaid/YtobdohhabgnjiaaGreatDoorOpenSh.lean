/-
  A shape that came in, opened, as the frame of a law hands it on.
-/
import Derived.Test.YtobdohhabgnjiaaGreatDoorSh
set_option linter.all false
namespace Go.Proofs.YtobdohhabgnjiaaGreatDoor
open PubFl Go.ChangeShapes Go.WideShapes Go.ChangeAt Go.RowKit Go.Joins Go.Deep

section
variable {H : Type} {enc : TypeId × Value → H} {w : World}
theorem lite_of {P : Program} {ts : List TypeId} {ds : List (DataW H)} (h : (DataW.weightsEach P ts ds).all (· ≤ reachBytes) = true) {j : Nat} {t : TypeId} {d : DataW H} (ht : ts[j]? = some t) (hd : ds[j]? = some d) : Lite P t d := fun n hn => by
  have := List.all_eq_true.1 h n (DataW.weights_mem_each ht hd n hn)
  simpa using this
end
end Go.Proofs.YtobdohhabgnjiaaGreatDoor
