/-
  laws.FnRingArea, walked: it answers true.
-/
import Derived.Test.YtnmdgdmnmoghhaaDoorMeas
import Derived.Test.YtnmdgdmnmoghhaaDoorLawBox
import Derived.Deep.Slices
namespace Go.Proofs.YtnmdgdmnmoghhaaDoor
open PubFl Go.RowKit

attribute [local go_sem] cell_ext frozen_ext ext_setCell cell_store size_ext_eq lt_p0 lt_p1 lt_p2 lt_p3 lt_p4 lt_p5 lt_p6 lt_p7 lt_p8 lt_p9 lt_p10 lt_p11 lt_p12 lt_p13 lt_p14 lt_p15 lt_p16 lt_p17 lt_p18 lt_p19 lt_p20 lt_p21 lt_p22 lt_p23 lt_p24 lt_p25 lt_p26 lt_p27 lt_p28 lt_p29 lt_p30 lt_p31 lt_p32 lt_q1 lt_q2 lt_q3 lt_q4 lt_q5 lt_q6 lt_q7 lt_q8 lt_q9 lt_q10 lt_q11 lt_q12 lt_q13 lt_q14 lt_q15 lt_q16 lt_q17 lt_q18 lt_q19 lt_q20 lt_q21 lt_q22 lt_q23 lt_q24 lt_q25 lt_q26 lt_q27 lt_q28 lt_q29 lt_q30 lt_q31 lt_q32 run_fop run_store_float
attribute [local go_sem high] cmp_eql cmp_neq cmp_lss cmp_leq cmp_gtr cmp_geq

theorem ring_ints' (ps : List (Nat × Nat)) (hbits : Bits ps) (h : ringB ps = true) : ps.length ≤ 100 ∧ 4 ≤ ps.length ∧ ∃ x y : Nat → Int, IntPts ps x y ∧ x (ps.length - 1) = x 0 ∧ y (ps.length - 1) = y 0 := by
  unfold ringB arePtsB at h
  simp only [Bool.and_eq_true, decide_eq_true_eq, List.all_eq_true] at h
  obtain ⟨⟨h4, hall, hle⟩, hm⟩ := h
  have hp : ∀ i, i < ps.length → ∃ q : Int × Int, IsV (ps.getD i (0, 0)).1 q.1 ∧ IsV (ps.getD i (0, 0)).2 q.2 ∧ (-1000 ≤ q.1 ∧ q.1 ≤ 1000) ∧ (-1000 ≤ q.2 ∧ q.2 ≤ 1000) := fun i hi => by
    rw [getD_in _ _ hi]
    obtain ⟨g0, g1⟩ := hbits i hi
    obtain ⟨a, b, h1, h2, h3, h4⟩ := pointB_int g0 g1 (hall _ (List.getElem_mem hi))
    exact ⟨(a, b), h1, h2, h3, h4⟩
  obtain ⟨q, hq⟩ := Go.Deep.choose_lt hp
  refine ⟨by omega, h4, fun i => (q i).1, fun i => (q i).2, fun i hi => by have := hq i hi; rwa [getD_in _ _ hi] at this, ?_, ?_⟩
  all_goals
    unfold meetsB at hm
    simp only [Bool.and_eq_true] at hm
    obtain ⟨a1, a2, _⟩ := hq 0 (by omega)
    obtain ⟨b1, b2, _⟩ := hq (ps.length - 1) (by omega)
    rw [eqF_int a1 b1, eqF_int a2 b2] at hm
    simp only [decide_eq_true_eq] at hm
    dsimp only
    omega

end Go.Proofs.YtnmdgdmnmoghhaaDoor
