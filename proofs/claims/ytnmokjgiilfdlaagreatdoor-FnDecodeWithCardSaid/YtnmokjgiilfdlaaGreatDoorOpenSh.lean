/-
  A shape that came in, opened, as the frame of a law hands it on.
-/
import Derived.Test.YtnmokjgiilfdlaaGreatDoorSh
set_option linter.all false
namespace Go.Proofs.YtnmokjgiilfdlaaGreatDoor
open PubFl Go.ChangeShapes Go.WideShapes Go.ChangeAt Go.RowKit Go.Joins Go.Deep

section
variable {H : Type} {enc : TypeId × Value → H} {w : World}
theorem lite_of {P : Program} {ts : List TypeId} {ds : List (DataW H)} (h : (DataW.weightsEach P ts ds).all (· ≤ reachBytes) = true) {j : Nat} {t : TypeId} {d : DataW H} (ht : ts[j]? = some t) (hd : ds[j]? = some d) : Lite P t d := fun n hn => by
  have := List.all_eq_true.1 h n (DataW.weights_mem_each ht hd n hn)
  simpa using this
set_option maxRecDepth 100000 in
theorem open_shape {r : Reach} {b0 : Nat} {v : Value} {d : DataW H} {p : List MemPlace} (hv : Value.okWide Tryz.prog w r b0 25 v)
    (h : DataW.Trod enc Tryz.prog w 0 (fun _ => true) true 25 v d p) (hz : Lite Tryz.prog 25 d) :
    ∃ (lv pv : Value) (s : Sh), v = .agg #[.int .i64 s.kind, lv, pv] ∧ ShIn 4 w lv pv s := by
  obtain ⟨cs, rfl, hsz⟩ := okWide_struct Tryz.underlying25 hv
  obtain ⟨fuel, hf⟩ := h
  obtain ⟨lv, pv, s, hcs, hs⟩ := open_sh (P := Tryz.prog) (w := w) ⟨Tryz.underlying25, by kernel_rfl, by kernel_rfl, by kernel_rfl, by kernel_rfl, by kernel_rfl, by kernel_rfl, by kernel_rfl, by kernel_rfl, by kernel_rfl,
    Tryz.underlying22, Tryz.underlying23, by kernel_rfl, by kernel_rfl, Tryz.underlying63, Tryz.underlying68, by kernel_rfl, by kernel_rfl, by kernel_rfl, by kernel_rfl, by kernel_rfl, by kernel_rfl, by kernel_rfl, by kernel_rfl⟩ 4 hf hz
  refine ⟨lv, pv, s, ?_, hs⟩
  have : cs.toList = [.int .i64 s.kind, lv, pv] := by simpa [Value.cells] using hcs
  obtain ⟨l⟩ := cs
  simp only at this
  rw [this]
end
end Go.Proofs.YtnmokjgiilfdlaaGreatDoor
