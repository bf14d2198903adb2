/-
  spec.Near and laws.FnSegmentAny, walked: the law answers true.
-/
import Derived.Test.YtglopopdmkgooaaSeg
import Derived.Test.YtglopopdmkgooaaNearG
import Derived.Test.YtglopopdmkgooaaEq
namespace Go.Proofs.Ytglopopdmkgooaa
open PubFl Go.RowKit

attribute [local go_sem] cell_ext frozen_ext ext_setCell cell_store size_ext_eq lt_p0 lt_p1 lt_p2 lt_p3 lt_p4 lt_p5 lt_p6 lt_p7 lt_p8 lt_p9 lt_p10 lt_p11 lt_p12 lt_p13 lt_p14 lt_p15 lt_p16 lt_p17 lt_p18 lt_p19 lt_p20 lt_p21 lt_p22 lt_p23 lt_p24 lt_p25 lt_p26 lt_p27 lt_p28 lt_p29 lt_p30 lt_p31 lt_p32 lt_q1 lt_q2 lt_q3 lt_q4 lt_q5 lt_q6 lt_q7 lt_q8 lt_q9 lt_q10 lt_q11 lt_q12 lt_q13 lt_q14 lt_q15 lt_q16 lt_q17 lt_q18 lt_q19 lt_q20 lt_q21 lt_q22 lt_q23 lt_q24 lt_q25 lt_q26 lt_q27 lt_q28 lt_q29 lt_q30 lt_q31 lt_q32 run_fop run_store_float
attribute [local go_sem high] cmp_eql cmp_neq cmp_lss cmp_leq cmp_gtr cmp_geq

set_option maxHeartbeats 1000000 in
theorem near_c (ax ay bx by' px py far : Nat) (r : Bool) (h : NearOk ax ay bx by' px py far r) (w : World) :
    Calls Try.prog 12 #[.agg #[.float .f64 ax, .float .f64 ay], .agg #[.float .f64 bx, .float .f64 by'], .agg #[.float .f64 px, .float .f64 py], .float .f64 far] w (Ret w (.bool r)) := by
  cases h with
  | start al ld mo g d =>
    obtain ⟨a1, a2, a3, a4, a5, a6, a7⟩ := al
    obtain ⟨o1, o2⟩ := mo
    unfold mostF
    unfold alongF at g
    go_enter Try.func12, Try.ntmps12
    go_wp2_with (go_at_call 27; (first | (with_reducible refine (Ret.at_ext (squared_c _ _ _ _ (by assumption) _)).mono ?_) | (with_reducible refine (squared_c _ _ _ _ (by assumption) _).mono ?_)); rintro e w' ⟨rfl, u, rfl⟩)
    go_ret
    exact Ret.mk rfl (by repeat (first | (with_reducible exact Kp.refl _) | (with_reducible assumption) | (with_reducible apply Kp.ext) | (with_reducible apply Kp.alloc) | (with_reducible apply Kp.drew) | (with_reducible apply Kp.drewN) | (with_reducible refine Kp.setCell ?_ (by first | (dsimp only; omega) | (simp; omega) | (simp; done) | (simp [size_ext_eq]; omega)) _)))
  | stop al ld mo g g2 d =>
    obtain ⟨a1, a2, a3, a4, a5, a6, a7⟩ := al
    obtain ⟨o1, o2⟩ := mo
    unfold mostF
    unfold alongF at g g2
    go_enter Try.func12, Try.ntmps12
    go_wp2_with (go_at_call 27; (first | (with_reducible refine (Ret.at_ext (squared_c _ _ _ _ (by assumption) _)).mono ?_) | (with_reducible refine (squared_c _ _ _ _ (by assumption) _).mono ?_)); rintro e w' ⟨rfl, u, rfl⟩)
    go_ret
    exact Ret.mk rfl (by repeat (first | (with_reducible exact Kp.refl _) | (with_reducible assumption) | (with_reducible apply Kp.ext) | (with_reducible apply Kp.alloc) | (with_reducible apply Kp.drew) | (with_reducible apply Kp.drewN) | (with_reducible refine Kp.setCell ?_ (by first | (dsimp only; omega) | (simp; omega) | (simp; done) | (simp [size_ext_eq]; omega)) _)))
  | side al ld mo g g2 d o1 o2 =>
    obtain ⟨a1, a2, a3, a4, a5, a6, a7⟩ := al
    obtain ⟨o3, o4⟩ := mo
    unfold mostF at *
    unfold alongF at g g2
    go_enter Try.func12, Try.ntmps12
    go_wp2_with (first | (go_at_call 27; (first | (with_reducible refine (Ret.at_ext (squared_c _ _ _ _ (by assumption) _)).mono ?_) | (with_reducible refine (squared_c _ _ _ _ (by assumption) _).mono ?_)); rintro e w' ⟨rfl, u, rfl⟩) | (go_at_call 15; (first | (with_reducible refine (Ret.at_ext (cross_c _ _ _ _ _ _ d _)).mono ?_) | (with_reducible refine (cross_c _ _ _ _ _ _ d _).mono ?_)); rintro e w' ⟨rfl, u, rfl⟩))
    go_ret
    exact Ret.mk rfl (by repeat (first | (with_reducible exact Kp.refl _) | (with_reducible assumption) | (with_reducible apply Kp.ext) | (with_reducible apply Kp.alloc) | (with_reducible apply Kp.drew) | (with_reducible apply Kp.drewN) | (with_reducible refine Kp.setCell ?_ (by first | (dsimp only; omega) | (simp; omega) | (simp; done) | (simp [size_ext_eq]; omega)) _)))

theorem works_seg2 : ∃ r, SegOk 0 0 4616189618054758400 0 4607182418800017408 4611686018427387904 r ∧ eqF r 4616189618054758400 = true := by
  refine ⟨_, .mid ?_ ?_ (.inl ?_) ⟨?_, ?_, ?_, ?_, ?_, ?_, ?_, ?_, ?_⟩ ?_ ?_ ⟨?_, ?_⟩ ⟨?_, ?_⟩ ⟨?_, ?_, ?_, ?_, ?_⟩, ?_⟩
  all_goals (first | (unfold FOk; decide +kernel) | decide +kernel)

end Go.Proofs.Ytglopopdmkgooaa
