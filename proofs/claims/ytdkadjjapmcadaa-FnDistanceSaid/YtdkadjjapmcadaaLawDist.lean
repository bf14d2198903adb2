/-
  laws.FnDistance, walked: it answers true.
-/
import Derived.Test.YtdkadjjapmcadaaDist
namespace Go.Proofs.Ytdkadjjapmcadaa
open PubFl

attribute [local go_sem] cell_ext frozen_ext ext_setCell cell_store size_ext_eq lt_p0 lt_p1 lt_p2 lt_p3 lt_p4 lt_p5 lt_p6 lt_p7 lt_p8 lt_p9 lt_p10 lt_p11 lt_p12 lt_p13 lt_p14 lt_p15 lt_p16 lt_p17 lt_p18 lt_p19 lt_p20 lt_p21 lt_p22 lt_p23 lt_p24 lt_p25 lt_p26 lt_p27 lt_p28 lt_p29 lt_p30 lt_p31 lt_p32 lt_q1 lt_q2 lt_q3 lt_q4 lt_q5 lt_q6 lt_q7 lt_q8 lt_q9 lt_q10 lt_q11 lt_q12 lt_q13 lt_q14 lt_q15 lt_q16 lt_q17 lt_q18 lt_q19 lt_q20 lt_q21 lt_q22 lt_q23 lt_q24 lt_q25 lt_q26 lt_q27 lt_q28 lt_q29 lt_q30 lt_q31 lt_q32 run_fop run_store_float
attribute [local go_sem high] cmp_eql cmp_neq cmp_lss cmp_leq cmp_gtr cmp_geq

theorem impl_distance_c (ax ay bx by' : Nat) (h : DsqOk ax ay bx by') (hs : SOk (dsqF ax ay bx by')) (w : World) : Calls Try.prog 27 #[.agg #[.float .f64 ax, .float .f64 ay], .agg #[.float .f64 bx, .float .f64 by']] w (Ret w (.float .f64 (sqrtF (dsqF ax ay bx by')))) := by
  go_enter Try.func27, Try.ntmps27
  go_wp2_with ((go_at_call 54; (first | (with_reducible refine (Ret.at_ext (distance_c _ _ _ _ h hs _)).mono ?_) | refine (distance_c _ _ _ _ h hs _).mono ?_); rintro e w' ⟨rfl, u, rfl⟩))
  go_ret
  exact Ret.mk rfl (by repeat (first | (with_reducible exact Kp.refl _) | (with_reducible assumption) | (with_reducible apply Kp.ext) | (with_reducible apply Kp.alloc) | (with_reducible apply Kp.drew) | (with_reducible apply Kp.drewN) | (with_reducible refine Kp.setCell ?_ (by first | (dsimp only; omega) | (simp; omega) | (simp; done) | (simp [size_ext_eq]; omega)) _)))
theorem impl_distanceSquared_c (ax ay bx by' : Nat) (h : DsqOk ax ay bx by') (w : World) : Calls Try.prog 28 #[.agg #[.float .f64 ax, .float .f64 ay], .agg #[.float .f64 bx, .float .f64 by']] w (Ret w (.float .f64 (dsqF ax ay bx by'))) := by
  go_enter Try.func28, Try.ntmps28
  go_wp2_with ((go_at_call 55; (first | (with_reducible refine (Ret.at_ext (distanceSquared_c _ _ _ _ h _)).mono ?_) | refine (distanceSquared_c _ _ _ _ h _).mono ?_); rintro e w' ⟨rfl, u, rfl⟩))
  go_ret
  exact Ret.mk rfl (by repeat (first | (with_reducible exact Kp.refl _) | (with_reducible assumption) | (with_reducible apply Kp.ext) | (with_reducible apply Kp.alloc) | (with_reducible apply Kp.drew) | (with_reducible apply Kp.drewN) | (with_reducible refine Kp.setCell ?_ (by first | (dsimp only; omega) | (simp; omega) | (simp; done) | (simp [size_ext_eq]; omega)) _)))

theorem three_four : DsqOk 0 0 4613937818241073152 4616189618054758400 ∧ SOk (dsqF 0 0 4613937818241073152 4616189618054758400) ∧ eqF (sqrtF (dsqF 0 0 4613937818241073152 4616189618054758400)) 4617315517961601024 = true := by
  refine ⟨⟨?_, ?_, ?_, ?_, ?_⟩, ?_, ?_⟩
  all_goals (first | (unfold FOk; decide +kernel) | (unfold SOk; decide +kernel) | decide +kernel)

theorem dsq_point {ax ay bx by' : Nat} (h1 : ax < 2 ^ 64) (h2 : ay < 2 ^ 64) (h3 : bx < 2 ^ 64) (h4 : by' < 2 ^ 64) (c1 : pointB ax ay = true) (c2 : pointB bx by' = true) :
    DsqOk ax ay bx by' ∧ SOk (dsqF ax ay bx by') ∧ eqF (dsqF ax ay bx by') (dsqF ax ay bx by') = true ∧ eqF (sqrtF (dsqF ax ay bx by')) (sqrtF (dsqF ax ay bx by')) = true := by
  obtain ⟨a, b, i1, i2, _, _⟩ := pointB_int h1 h2 c1
  obtain ⟨c, d, i3, i4, _, _⟩ := pointB_int h3 h4 c2
  obtain ⟨ok, v⟩ := dsq_int i1 i2 i3 i4 (by omega) (by omega) (by omega) (by omega)
  have hnn : 0 ≤ (a - c) * (a - c) + (b - d) * (b - d) := Int.add_nonneg (sq_nn _) (sq_nn _)
  have hb : (a - c) * (a - c) + (b - d) * (b - d) ≤ 2 ^ 60 := by
    have q1 : ((a - c) * (a - c)).natAbs ≤ 4000000 * 4000000 := by
      rw [Int.natAbs_mul]; exact Nat.mul_le_mul (by omega) (by omega)
    have q2 : ((b - d) * (b - d)).natAbs ≤ 4000000 * 4000000 := by
      rw [Int.natAbs_mul]; exact Nat.mul_le_mul (by omega) (by omega)
    omega
  obtain ⟨sok, r, hr, _⟩ := sqrtF_near v (Rat.intCast_nonneg.2 hnn) (by
    have h1 : (((a - c) * (a - c) + (b - d) * (b - d) : Int) : Rat) ≤ ((2 ^ 60 : Int) : Rat) := Rat.intCast_le_intCast.2 hb
    refine Rat.le_trans h1 ?_
    rw [huge_eq]
    have := zpow_le (a := 60) (b := 1000) (by omega)
    refine Rat.le_trans ?_ this
    rw [show (60 : Int) = ((60 : Nat) : Int) from rfl, zpow_nat]
    exact Rat.le_refl)
  refine ⟨ok, sok, ?_, ?_⟩
  · rw [eqF_isV v v]; simp
  · rw [eqF_isV hr hr]; simp

theorem distance_law (ax ay bx by' : Nat) (h1 : ax < 2 ^ 64) (h2 : ay < 2 ^ 64) (h3 : bx < 2 ^ 64) (h4 : by' < 2 ^ 64) (w : World) :
    Calls Try.prog 8 #[.agg #[.float .f64 ax, .float .f64 ay], .agg #[.float .f64 bx, .float .f64 by']] w (Ret w (.bool true)) := by
  obtain ⟨t1, t2, t3⟩ := three_four
  by_cases hc : pointB ax ay = true ∧ pointB bx by' = true
  · obtain ⟨c1, c2⟩ := hc
    obtain ⟨ok, sok, e1, e2⟩ := dsq_point h1 h2 h3 h4 c1 c2
    go_enter Try.func8, Try.ntmps8
    go_wp2_with (first | (go_at_call 20; (first | (with_reducible refine (Ret.at_ext (point_c _ _ (by assumption) (by assumption) _)).mono ?_) | refine (point_c _ _ (by assumption) (by assumption) _).mono ?_); rintro e w' ⟨rfl, u, rfl⟩) | (go_at_call 27; (first | (with_reducible refine (Ret.at_ext (impl_distance_c _ _ _ _ t1 t2 _)).mono ?_) | refine (impl_distance_c _ _ _ _ t1 t2 _).mono ?_); rintro e w' ⟨rfl, u, rfl⟩))
    first | (with_reducible refine wp_region_ext_lit2 ?_ ?_ ?_) | refine wp_region_ext_lit ?_ ?_ ?_
    kernel_rfl
    kernel_rfl
    repeat (go_big_quiet_step (first | (go_at_call 28; exact Ret.quiet (impl_distanceSquared_c _ _ _ _ ok _)) | (go_at_call 29; exact Ret.quiet (squared_c _ _ _ _ ok _)) | (go_at_call 27; exact Ret.quiet (impl_distance_c _ _ _ _ ok sok _)) | (go_at_call 30; exact Ret.quiet (sqrt_c _ sok _))))
    refine wpQuiet_nil ?_
    rintro _ ⟨u, rfl⟩
    go_wp2_with fail
    go_ret
    exact Ret.mk rfl (by repeat (first | (with_reducible exact Kp.refl _) | (with_reducible assumption) | (with_reducible apply Kp.ext) | (with_reducible apply Kp.alloc) | (with_reducible apply Kp.drew) | (with_reducible apply Kp.drewN) | (with_reducible refine Kp.setCell ?_ (by first | (dsimp only; omega) | (simp; omega) | (simp; done) | (simp [size_ext_eq]; omega)) _)))
  · cases c1 : pointB ax ay
    · clear hc
      go_enter Try.func8, Try.ntmps8
      go_wp2_with (first | (go_at_call 20; (first | (with_reducible refine (Ret.at_ext (point_c _ _ (by assumption) (by assumption) _)).mono ?_) | refine (point_c _ _ (by assumption) (by assumption) _).mono ?_); rintro e w' ⟨rfl, u, rfl⟩) | (go_at_call 27; (first | (with_reducible refine (Ret.at_ext (impl_distance_c _ _ _ _ t1 t2 _)).mono ?_) | refine (impl_distance_c _ _ _ _ t1 t2 _).mono ?_); rintro e w' ⟨rfl, u, rfl⟩))
      go_ret
      exact Ret.mk rfl (by repeat (first | (with_reducible exact Kp.refl _) | (with_reducible assumption) | (with_reducible apply Kp.ext) | (with_reducible apply Kp.alloc) | (with_reducible apply Kp.drew) | (with_reducible apply Kp.drewN) | (with_reducible refine Kp.setCell ?_ (by first | (dsimp only; omega) | (simp; omega) | (simp; done) | (simp [size_ext_eq]; omega)) _)))
    · have c2 : pointB bx by' = false := by simpa [c1] using hc
      clear hc
      go_enter Try.func8, Try.ntmps8
      go_wp2_with (first | (go_at_call 20; (first | (with_reducible refine (Ret.at_ext (point_c _ _ (by assumption) (by assumption) _)).mono ?_) | refine (point_c _ _ (by assumption) (by assumption) _).mono ?_); rintro e w' ⟨rfl, u, rfl⟩) | (go_at_call 27; (first | (with_reducible refine (Ret.at_ext (impl_distance_c _ _ _ _ t1 t2 _)).mono ?_) | refine (impl_distance_c _ _ _ _ t1 t2 _).mono ?_); rintro e w' ⟨rfl, u, rfl⟩))
      go_ret
      exact Ret.mk rfl (by repeat (first | (with_reducible exact Kp.refl _) | (with_reducible assumption) | (with_reducible apply Kp.ext) | (with_reducible apply Kp.alloc) | (with_reducible apply Kp.drew) | (with_reducible apply Kp.drewN) | (with_reducible refine Kp.setCell ?_ (by first | (dsimp only; omega) | (simp; omega) | (simp; done) | (simp [size_ext_eq]; omega)) _)))
end Go.Proofs.Ytdkadjjapmcadaa
