/-
  The root of a whole number against a whole number: plain facts.
-/
import Derived.Test.YtglopopdmkgooaaResF
namespace Go.Proofs.Ytglopopdmkgooaa
open PubFl

theorem sqrt_gt {d t : Nat} {D T : Int} (hd : IsV d D) (ht : IsV t T) (h0 : 0 ≤ D) (h1 : D ≤ 100000000) (t0 : 0 ≤ T) (t1 : T ≤ 1000) :
    SOk d ∧ FOk .mul t t ∧ (∃ r, IsV (sqrtF d) r) ∧ gtF (sqrtF d) t = decide (T * T < D) ∧ gtF d (fop .mul t t) = decide (T * T < D) := by
  have tt : 0 ≤ T * T := Int.mul_nonneg t0 t0
  have tt2 : T * T ≤ 1000 * 1000 := Int.mul_le_mul t1 t1 t0 (by omega)
  obtain ⟨om, vm⟩ := mul_int ht ht (by omega)
  refine (fun (h : SOk d ∧ (∃ r, IsV (sqrtF d) r) ∧ gtF (sqrtF d) t = decide (T * T < D)) => ⟨h.1, om, h.2.1, h.2.2, gtF_int hd vm⟩) ?_
  have d0 : (0 : Rat) ≤ D := int_le (a := 0) h0
  have d1 : (D : Rat) ≤ 100000000 := int_le h1
  have q0 : (0 : Rat) ≤ T := int_le (a := 0) t0
  by_cases he : D = T * T
  · obtain ⟨so, v⟩ := sqrtF_exact (v := (T : Rat)) hd q0 (by rw [he, Rat.intCast_mul]) (few_int (by omega))
    refine ⟨so, ⟨_, v⟩, ?_⟩
    rw [gtF_int v ht]
    exact decide_eq_decide.2 ⟨fun h => by omega, fun h => by omega⟩
  · obtain ⟨so, r, v, r0, hw⟩ := sqrtF_near hd d0 (huge_ge (by grind))
    have el := eps_lit
    obtain ⟨w1, w2⟩ := hw
    rw [el] at w1 w2
    refine ⟨so, ⟨_, v⟩, ?_⟩
    rw [gtF_isV v ht]
    have hTT : ((T * T : Int) : Rat) = (T : Rat) * T := Rat.intCast_mul ..
    refine decide_eq_decide.2 ⟨fun h => ?_, fun h => ?_⟩
    · by_cases hlt : T * T < D
      · exact hlt
      · exfalso
        have hle := int_le (show D ≤ T * T - 1 by omega)
        rw [Rat.intCast_sub, hTT] at hle
        have e1 : ((1 : Int) : Rat) = 1 := rfl
        rw [e1] at hle
        have m1 := Rat.mul_nonneg (show 0 ≤ r - T by grind) (show 0 ≤ r + T by grind)
        grind
    · have hle := int_le (show T * T + 1 ≤ D by omega)
      rw [Rat.intCast_add, hTT] at hle
      have e1 : ((1 : Int) : Rat) = 1 := rfl
      rw [e1] at hle
      rcases rat_cases (T : Rat) r with c | c
      · exact c
      · exfalso
        have m1 := Rat.mul_nonneg (show 0 ≤ T - r by grind) (show 0 ≤ r + T by grind)
        grind
theorem wrap_in2 (n : Int) (h0 : -9223372036854775808 ≤ n) (h1 : n ≤ 9223372036854775807) : Go.IntKind.i64.wrap n = n := by
  rw [← wrap64_i64]
  unfold Go.RowKit.wrap64
  omega
end Go.Proofs.Ytglopopdmkgooaa
