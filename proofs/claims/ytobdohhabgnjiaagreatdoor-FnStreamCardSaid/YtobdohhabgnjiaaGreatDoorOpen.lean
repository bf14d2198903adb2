/-
  Arguments opened: a point by value, a list of points. And the frame of a law's proof, but for the walk.
-/
import Derived.Test.YtobdohhabgnjiaaGreatDoorRows
import Derived.Test.YtobdohhabgnjiaaGreatDoorWk
import Derived.WalkKit
import Derived.ProofKit
import Derived.OpenShut
import Derived.ChangeOld
import Derived.Below
import Derived.Lib.SmallJoins
import Derived.Deep.Slices
import Derived.Deep.Fields
import Derived.Laws.Cover2
set_option linter.all false
namespace Go.Proofs.YtobdohhabgnjiaaGreatDoor
open PubFl Go.ChangeShapes Go.WideShapes Go.ChangeAt Go.RowKit Go.Joins Go.Deep

theorem own : ownKnob Tryz.prog.godebug = none := by kernel_rfl
theorem laidOut : laidOutB Tryz.prog = true := by kernel_rfl

section
variable {H : Type} {enc : TypeId × Value → H} {P : Program} {w : World} {base : Nat} {spare : Nat → Bool} {held : Bool}

theorem trod_float_cell {t : TypeId} {n : Nat} {v : Value} {y : DataW H × List MemPlace} (ht : P.underlying t = some (.float .f64)) (h : DataW.trod enc P w base spare held n t [v] = some y) : ∃ b, v = .float .f64 b ∧ b < 2 ^ 64 := by
  cases n with
  | zero => simp [DataW.trod] at h
  | succ n =>
    simp only [DataW.trod, ht] at h
    split at h <;> simp_all
    rename_i k' k'' b hk
    obtain ⟨⟨_, hw⟩, _⟩ := h
    rw [← hk] at hw
    simpa [Lit.wf] using hw

theorem lt_of_trod {t : TypeId} {v : Value} {d : DataW H} {p : List MemPlace} {held : Bool} (h : DataW.Trod enc P w 0 (fun _ => true) held t v d p) : ∀ x ∈ p, x.block < w.heap.size := by
  obtain ⟨m, hm⟩ := h
  exact DataW.trod_lt m _ _ _ hm
end
end Go.Proofs.YtobdohhabgnjiaaGreatDoor
