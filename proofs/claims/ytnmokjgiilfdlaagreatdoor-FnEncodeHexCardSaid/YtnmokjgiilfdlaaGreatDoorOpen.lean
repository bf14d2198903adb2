/-
  Arguments opened: a point by value, a list of points. And the frame of a law's proof, but for the walk.
-/
import Derived.Test.YtnmokjgiilfdlaaGreatDoorRows
import Derived.Test.YtnmokjgiilfdlaaGreatDoorWk
import Derived.WalkKit
import Derived.ProofKit
import Derived.OpenShut
import Derived.ChangeOld
import Derived.Below
import Derived.Lib.SmallJoins
import Derived.Deep.Slices
import Derived.Deep.Fields
import Derived.Laws.Cover2
set_option linter.all false
namespace Go.Proofs.YtnmokjgiilfdlaaGreatDoor
open PubFl Go.ChangeShapes Go.WideShapes Go.ChangeAt Go.RowKit Go.Joins Go.Deep

theorem own : ownKnob Tryz.prog.godebug = none := by kernel_rfl
theorem laidOut : laidOutB Tryz.prog = true := by kernel_rfl

section
variable {H : Type} {enc : TypeId × Value → H} {P : Program} {w : World} {base : Nat} {spare : Nat → Bool} {held : Bool}

theorem trod_float_cell {t : TypeId} {n : Nat} {v : Value} {y : DataW H × List MemPlace} (ht : P.underlying t = some (.float .f64)) (h : DataW.trod enc P w base spare held n t [v] = some y) : ∃ b, v = .float .f64 b ∧ b < 2 ^ 64 := by
  cases n with
  | zero => simp [DataW.trod] at h
  | succ n =>
    simp only [DataW.trod, ht] at h
    split at h <;> simp_all
    rename_i k' k'' b hk
    obtain ⟨⟨_, hw⟩, _⟩ := h
    rw [← hk] at hw
    simpa [Lit.wf] using hw

/-- a point by value -/
theorem open_pt {r : Reach} {b0 : Nat} {t : TypeId} {f0 f1 : Field} {v : Value} {d : DataW H} {p : List MemPlace} (hs : P.underlying t = some (.struct #[f0, f1])) (hone : oneCellFields P #[f0, f1] = true) (hC : P.cellsOf t = 2)
    (e0 : P.underlying f0.type = some (.float .f64)) (e1 : P.underlying f1.type = some (.float .f64))
    (hv : Value.okWide P w r b0 t v) (h : DataW.Trod enc P w base spare held t v d p) : ∃ x y, v = .agg #[.float .f64 x, .float .f64 y] ∧ x < 2 ^ 64 ∧ y < 2 ^ 64 := by
  obtain ⟨v0, v1, y0, y1, n, rfl, _, _, h0, h1⟩ := open_agg2 hs hone hC hv h
  obtain ⟨x, rfl, hx⟩ := trod_float_cell e0 h0
  obtain ⟨y, rfl, hy⟩ := trod_float_cell e1 h1
  exact ⟨x, y, rfl, hx, hy⟩
theorem open_fl {r : Reach} {b0 : Nat} {t : TypeId} {v : Value} {d : DataW H} {p : List MemPlace} (hs : P.underlying t = some (.float .f64))
    (hv : Value.okWide P w r b0 t v) (h : DataW.Trod enc P w base spare held t v d p) : ∃ x, v = .float .f64 x ∧ x < 2 ^ 64 := by
  obtain ⟨x, rfl, _, _, hw⟩ := open_float hs hv h
  simp [Lit.wf] at hw
  exact ⟨x, rfl, hw⟩
theorem int_wf {n : Int} (h : (Lit.int .i64 n).wf = true) : -9223372036854775808 ≤ n ∧ n ≤ 9223372036854775807 := by
  simpa [Lit.wf, IntKind.min, IntKind.max, IntKind.signed, IntKind.bits] using h
theorem lt_of_trod {t : TypeId} {v : Value} {d : DataW H} {p : List MemPlace} {held : Bool} (h : DataW.Trod enc P w 0 (fun _ => true) held t v d p) : ∀ x ∈ p, x.block < w.heap.size := by
  obtain ⟨m, hm⟩ := h
  exact DataW.trod_lt m _ _ _ hm
end
end Go.Proofs.YtnmokjgiilfdlaaGreatDoor
