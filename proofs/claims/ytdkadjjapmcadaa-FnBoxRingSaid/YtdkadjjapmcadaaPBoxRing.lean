/-
  The law FnBoxRing, whole: for every input it answers true, and each argument reads behind the call as it read before. No condition.
-/
import Derived.Test.YtdkadjjapmcadaaOpen
import Derived.Test.YtdkadjjapmcadaaLawBoxRing
namespace Go.Proofs.Ytdkadjjapmcadaa.fnBoxRing
open PubFl Go.ChangeShapes Go.WideShapes Go.ChangeAt Go.RowKit Go.Joins Go.Deep

set_option maxRecDepth 100000 in
theorem lifted (os : Os) (started : os.Started) (H : Type) (enc : TypeId × Value → H) :
    ReturnsInHanded {} Try.checked os 11 .any (Rows.fnBoxRingSpec.pre6 enc Try.prog Try.f11 Rows.fnBoxRingRow.domain false) (Rows.fnBoxRingSpec.post enc Try.prog Try.f11 false true false false) := by
  refine returnsInHanded_of_change (C := Try.checked) own started (by kernel_rfl) Try.func11
    (ChangeSpec.witness6 (enc := enc) (C := Try.checked) false ⟨#[], #[.agg #[.float .f64 0, .float .f64 0], .agg #[.float .f64 0, .float .f64 0]], []⟩ 8 (by kernel_rfl) (by kernel_rfl) (by kernel_rfl) (by kernel_rfl)) ?_
  intro W base args ds gs before hval0 hW hcnd _
  have hval : ∀ (j : Nat) t v, Try.f11.params[j]? = some t → args[j]? = some v → Value.okWide Try.prog W .any base t v := hval0
  have hW' := hW
  obtain ⟨p, q, hA0, hV, rfl, _, _⟩ := hW
  have hA : DataW.TrodAll enc Try.prog W 0 (fun _ => true) true Try.f11.params.toList args.toList ds p := hA0
  rw [Try.params11] at hA hval
  obtain ⟨v0, vs0, d0, ds0, p0, q0, hargs, rfl, rfl, h0, r0⟩ := trodAll_cons hA
  obtain ⟨v1, vs1, d1, ds1, p1, q1, rfl, rfl, rfl, h1, r1⟩ := trodAll_cons r0
  obtain ⟨rfl, rfl, rfl⟩ := trodAll_nil r1
  obtain rfl : args = #[v0, v1] := by cases args; simp_all
  obtain ⟨rfl, rfl⟩ := trodVars_none hV
  obtain ⟨x0, y0, rfl, bx0, by0⟩ := open_pt Try.underlying28 (by kernel_rfl) (by kernel_rfl) (by kernel_rfl) (by kernel_rfl) (hval 0 28 v0 rfl rfl) h0
  obtain ⟨x1, y1, rfl, bx1, by1⟩ := open_pt Try.underlying28 (by kernel_rfl) (by kernel_rfl) (by kernel_rfl) (by kernel_rfl) (hval 1 28 v1 rfl rfl) h1
  clear hA0 hval0
  refine (boxRing_walk (w := W) x0 y0 x1 y1 bx0 by0 bx1 by1).mono fun e W' hR => ?_
  obtain ⟨he, u, hu⟩ := hR
  have bel : Below W.heap.size W W' := by rw [hu]; exact ext_below W u
  clear hu
  subst he
  exact ⟨_, rfl, _, _, _, [], _, [], hW', trodAll_mk1 (shut_bool Try.underlying4 _), (trodAll_cons_mk (Below.trod laidOut (by kernel_rfl) (of_decide_eq_true (by kernel_rfl)) h0 bel (lt_of_trod h0)) (trodAll_cons_mk (Below.trod laidOut (by kernel_rfl) (of_decide_eq_true (by kernel_rfl)) h1 bel (lt_of_trod h1)) trodAll_mk0)), rfl, bel.frame _, fun h => by cases h⟩

theorem proved : Rows.FnBoxRingSaid :=
  OpenClaim.holds_of_wide 11 Try.f11 rfl rfl rfl rfl rfl rfl rfl ⟨rfl, rfl, rfl, rfl, rfl⟩ rfl rfl rfl rfl rfl (by kernel_rfl) Try.func11 (by kernel_rfl)
    (of_decide_eq_true (by kernel_rfl)) (by unfold Func.isWrapper; first | (rw [if_pos (by decide +kernel)]; kernel_rfl) | (rw [if_neg (by decide +kernel)]; exact ⟨rfl, rfl⟩))
    (fun os started H enc _ => lifted os started H enc)
#print axioms proved
end Go.Proofs.Ytdkadjjapmcadaa.fnBoxRing
