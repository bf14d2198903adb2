/-
  Distances of points: walked, and what they are for points with whole coordinates.
-/
import Derived.Test.YtglopopdmkgooaaLawBox
namespace Go.Proofs.Ytglopopdmkgooaa
open PubFl

attribute [local go_sem] cell_ext frozen_ext ext_setCell cell_store size_ext_eq lt_p0 lt_p1 lt_p2 lt_p3 lt_p4 lt_p5 lt_p6 lt_p7 lt_p8 lt_p9 lt_p10 lt_p11 lt_p12 lt_p13 lt_p14 lt_p15 lt_p16 lt_p17 lt_p18 lt_p19 lt_p20 lt_p21 lt_p22 lt_p23 lt_p24 lt_p25 lt_p26 lt_p27 lt_p28 lt_p29 lt_p30 lt_p31 lt_p32 lt_q1 lt_q2 lt_q3 lt_q4 lt_q5 lt_q6 lt_q7 lt_q8 lt_q9 lt_q10 lt_q11 lt_q12 lt_q13 lt_q14 lt_q15 lt_q16 lt_q17 lt_q18 lt_q19 lt_q20 lt_q21 lt_q22 lt_q23 lt_q24 lt_q25 lt_q26 lt_q27 lt_q28 lt_q29 lt_q30 lt_q31 lt_q32 run_fop run_store_float
attribute [local go_sem high] cmp_eql cmp_neq cmp_lss cmp_leq cmp_gtr cmp_geq

theorem sq_nn (a : Int) : 0 ≤ a * a := by
  by_cases h : 0 ≤ a
  · exact Int.mul_nonneg h h
  · have := Int.mul_nonneg (show 0 ≤ -a by omega) (show 0 ≤ -a by omega)
    rw [Int.neg_mul_neg] at this; exact this

/-- the square of a distance, as the program reckons it -/
def dsqF (ax ay bx by' : Nat) : Nat := fop .add (fop .mul (fop .sub ax bx) (fop .sub ax bx)) (fop .mul (fop .sub ay by') (fop .sub ay by'))
structure DsqOk (ax ay bx by' : Nat) : Prop where
  o1 : FOk .sub ax bx
  o2 : FOk .sub ay by'
  o3 : FOk .mul (fop .sub ax bx) (fop .sub ax bx)
  o4 : FOk .mul (fop .sub ay by') (fop .sub ay by')
  o5 : FOk .add (fop .mul (fop .sub ax bx) (fop .sub ax bx)) (fop .mul (fop .sub ay by') (fop .sub ay by'))

theorem dsq_int {ax ay bx by' : Nat} {a b c d : Int} (h1 : IsV ax a) (h2 : IsV ay b) (h3 : IsV bx c) (h4 : IsV by' d)
    (b1 : -2000000 ≤ a ∧ a ≤ 2000000) (b2 : -2000000 ≤ b ∧ b ≤ 2000000) (b3 : -2000000 ≤ c ∧ c ≤ 2000000) (b4 : -2000000 ≤ d ∧ d ≤ 2000000) :
    DsqOk ax ay bx by' ∧ IsV (dsqF ax ay bx by') (((a - c) * (a - c) + (b - d) * (b - d) : Int) : Rat) := by
  obtain ⟨o1, v1⟩ := sub_int h1 h3 (by omega)
  obtain ⟨o2, v2⟩ := sub_int h2 h4 (by omega)
  have q1 : ((a - c) * (a - c)).natAbs ≤ 4000000 * 4000000 := by
    rw [Int.natAbs_mul]; exact Nat.mul_le_mul (by omega) (by omega)
  have q2 : ((b - d) * (b - d)).natAbs ≤ 4000000 * 4000000 := by
    rw [Int.natAbs_mul]; exact Nat.mul_le_mul (by omega) (by omega)
  obtain ⟨o3, v3⟩ := mul_int v1 v1 (by omega)
  obtain ⟨o4, v4⟩ := mul_int v2 v2 (by omega)
  obtain ⟨o5, v5⟩ := add_int v3 v4 (by omega)
  exact ⟨⟨o1, o2, o3, o4, o5⟩, v5⟩

theorem squared_c (ax ay bx by' : Nat) (h : DsqOk ax ay bx by') (w : World) : Calls Try.prog 27 #[.agg #[.float .f64 ax, .float .f64 ay], .agg #[.float .f64 bx, .float .f64 by']] w (Ret w (.float .f64 (dsqF ax ay bx by'))) := by
  obtain ⟨o1, o2, o3, o4, o5⟩ := h
  go_enter Try.func27, Try.ntmps27
  go_wp2_with fail
  go_ret
  exact Ret.mk rfl (by repeat (first | (with_reducible exact Kp.refl _) | (with_reducible assumption) | (with_reducible apply Kp.ext) | (with_reducible apply Kp.alloc) | (with_reducible apply Kp.drew) | (with_reducible apply Kp.drewN) | (with_reducible refine Kp.setCell ?_ (by first | (dsimp only; omega) | (simp; omega) | (simp; done) | (simp [size_ext_eq]; omega)) _)))
theorem sqrt_c (x : Nat) (h : SOk x) (w : World) : Calls Try.prog 37 #[.float .f64 x] w (Ret w (.float .f64 (sqrtF x))) := by
  have hx := x_sqrt h
  go_enter Try.func37, Try.ntmps37
  go_wp2
  go_ret
  exact Ret.mk rfl (by repeat (first | (with_reducible exact Kp.refl _) | (with_reducible assumption) | (with_reducible apply Kp.ext) | (with_reducible apply Kp.alloc) | (with_reducible apply Kp.drew) | (with_reducible apply Kp.drewN) | (with_reducible refine Kp.setCell ?_ (by first | (dsimp only; omega) | (simp; omega) | (simp; done) | (simp [size_ext_eq]; omega)) _)))
theorem distance_c (ax ay bx by' : Nat) (h : DsqOk ax ay bx by') (hs : SOk (dsqF ax ay bx by')) (w : World) : Calls Try.prog 33 #[.agg #[.float .f64 ax, .float .f64 ay], .agg #[.float .f64 bx, .float .f64 by']] w (Ret w (.float .f64 (sqrtF (dsqF ax ay bx by')))) := by
  obtain ⟨o1, o2, o3, o4, o5⟩ := h
  go_enter Try.func33, Try.ntmps33
  go_wp2_with ((go_at_call 37; (first | (with_reducible refine (Ret.at_ext (sqrt_c _ hs _)).mono ?_) | refine (sqrt_c _ hs _).mono ?_); rintro e w' ⟨rfl, u, rfl⟩))
  go_ret
  exact Ret.mk rfl (by repeat (first | (with_reducible exact Kp.refl _) | (with_reducible assumption) | (with_reducible apply Kp.ext) | (with_reducible apply Kp.alloc) | (with_reducible apply Kp.drew) | (with_reducible apply Kp.drewN) | (with_reducible refine Kp.setCell ?_ (by first | (dsimp only; omega) | (simp; omega) | (simp; done) | (simp [size_ext_eq]; omega)) _)))
end Go.Proofs.Ytglopopdmkgooaa
