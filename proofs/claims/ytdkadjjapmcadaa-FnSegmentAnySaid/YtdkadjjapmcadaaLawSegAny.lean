/-
  spec.Near and laws.FnSegmentAny, walked: the law answers true.
-/
import Derived.Test.YtdkadjjapmcadaaSeg
import Derived.Test.YtdkadjjapmcadaaNearG
import Derived.Test.YtdkadjjapmcadaaEq
namespace Go.Proofs.Ytdkadjjapmcadaa
open PubFl Go.RowKit

attribute [local go_sem] cell_ext frozen_ext ext_setCell cell_store size_ext_eq lt_p0 lt_p1 lt_p2 lt_p3 lt_p4 lt_p5 lt_p6 lt_p7 lt_p8 lt_p9 lt_p10 lt_p11 lt_p12 lt_p13 lt_p14 lt_p15 lt_p16 lt_p17 lt_p18 lt_p19 lt_p20 lt_p21 lt_p22 lt_p23 lt_p24 lt_p25 lt_p26 lt_p27 lt_p28 lt_p29 lt_p30 lt_p31 lt_p32 lt_q1 lt_q2 lt_q3 lt_q4 lt_q5 lt_q6 lt_q7 lt_q8 lt_q9 lt_q10 lt_q11 lt_q12 lt_q13 lt_q14 lt_q15 lt_q16 lt_q17 lt_q18 lt_q19 lt_q20 lt_q21 lt_q22 lt_q23 lt_q24 lt_q25 lt_q26 lt_q27 lt_q28 lt_q29 lt_q30 lt_q31 lt_q32 run_fop run_store_float
attribute [local go_sem high] cmp_eql cmp_neq cmp_lss cmp_leq cmp_gtr cmp_geq

set_option maxHeartbeats 1000000 in
theorem near_c (ax ay bx by' px py far : Nat) (r : Bool) (h : NearOk ax ay bx by' px py far r) (w : World) :
    Calls Try.prog 32 #[.agg #[.float .f64 ax, .float .f64 ay], .agg #[.float .f64 bx, .float .f64 by'], .agg #[.float .f64 px, .float .f64 py], .float .f64 far] w (Ret w (.bool r)) := by
  cases h with
  | start al ld mo g d =>
    obtain ⟨a1, a2, a3, a4, a5, a6, a7⟩ := al
    obtain ⟨o1, o2⟩ := mo
    unfold mostF
    unfold alongF at g
    go_enter Try.func32, Try.ntmps32
    go_wp2_with (go_at_call 29; (first | (with_reducible refine (Ret.at_ext (squared_c _ _ _ _ (by assumption) _)).mono ?_) | (with_reducible refine (squared_c _ _ _ _ (by assumption) _).mono ?_)); rintro e w' ⟨rfl, u, rfl⟩)
    go_ret
    exact Ret.mk rfl (by repeat (first | (with_reducible exact Kp.refl _) | (with_reducible assumption) | (with_reducible apply Kp.ext) | (with_reducible apply Kp.alloc) | (with_reducible apply Kp.drew) | (with_reducible apply Kp.drewN) | (with_reducible refine Kp.setCell ?_ (by first | (dsimp only; omega) | (simp; omega) | (simp; done) | (simp [size_ext_eq]; omega)) _)))
  | stop al ld mo g g2 d =>
    obtain ⟨a1, a2, a3, a4, a5, a6, a7⟩ := al
    obtain ⟨o1, o2⟩ := mo
    unfold mostF
    unfold alongF at g g2
    go_enter Try.func32, Try.ntmps32
    go_wp2_with (go_at_call 29; (first | (with_reducible refine (Ret.at_ext (squared_c _ _ _ _ (by assumption) _)).mono ?_) | (with_reducible refine (squared_c _ _ _ _ (by assumption) _).mono ?_)); rintro e w' ⟨rfl, u, rfl⟩)
    go_ret
    exact Ret.mk rfl (by repeat (first | (with_reducible exact Kp.refl _) | (with_reducible assumption) | (with_reducible apply Kp.ext) | (with_reducible apply Kp.alloc) | (with_reducible apply Kp.drew) | (with_reducible apply Kp.drewN) | (with_reducible refine Kp.setCell ?_ (by first | (dsimp only; omega) | (simp; omega) | (simp; done) | (simp [size_ext_eq]; omega)) _)))
  | side al ld mo g g2 d o1 o2 =>
    obtain ⟨a1, a2, a3, a4, a5, a6, a7⟩ := al
    obtain ⟨o3, o4⟩ := mo
    unfold mostF at *
    unfold alongF at g g2
    go_enter Try.func32, Try.ntmps32
    go_wp2_with (first | (go_at_call 29; (first | (with_reducible refine (Ret.at_ext (squared_c _ _ _ _ (by assumption) _)).mono ?_) | (with_reducible refine (squared_c _ _ _ _ (by assumption) _).mono ?_)); rintro e w' ⟨rfl, u, rfl⟩) | (go_at_call 58; (first | (with_reducible refine (Ret.at_ext (cross_c _ _ _ _ _ _ d _)).mono ?_) | (with_reducible refine (cross_c _ _ _ _ _ _ d _).mono ?_)); rintro e w' ⟨rfl, u, rfl⟩))
    go_ret
    exact Ret.mk rfl (by repeat (first | (with_reducible exact Kp.refl _) | (with_reducible assumption) | (with_reducible apply Kp.ext) | (with_reducible apply Kp.alloc) | (with_reducible apply Kp.drew) | (with_reducible apply Kp.drewN) | (with_reducible refine Kp.setCell ?_ (by first | (dsimp only; omega) | (simp; omega) | (simp; done) | (simp [size_ext_eq]; omega)) _)))

theorem works_seg2 : ∃ r, SegOk 0 0 4616189618054758400 0 4607182418800017408 4611686018427387904 r ∧ eqF r 4616189618054758400 = true := by
  refine ⟨_, .mid ?_ ?_ (.inl ?_) ⟨?_, ?_, ?_, ?_, ?_, ?_, ?_, ?_, ?_⟩ ?_ ?_ ⟨?_, ?_⟩ ⟨?_, ?_⟩ ⟨?_, ?_, ?_, ?_, ?_⟩, ?_⟩
  all_goals (first | (unfold FOk; decide +kernel) | decide +kernel)

set_option maxRecDepth 100000 in
set_option maxHeartbeats 1000000 in
theorem segmentAny_no (ax ay bx by' px py : Nat) (k1 : ax < 2 ^ 64) (k2 : ay < 2 ^ 64) (k3 : bx < 2 ^ 64) (k4 : by' < 2 ^ 64) (k5 : px < 2 ^ 64) (k6 : py < 2 ^ 64) (hc : (pointB ax ay && pointB bx by' && pointB px py && !(eqF ax bx && eqF ay by')) = false) (w : World) :
    Calls Try.prog 9 #[.agg #[.float .f64 ax, .float .f64 ay], .agg #[.float .f64 bx, .float .f64 by'], .agg #[.float .f64 px, .float .f64 py]] w (Ret w (.bool true)) := by
  obtain ⟨r0, t0, t1⟩ := works_seg2
  have heq : ∀ w, _ := fun w => run_eql_pt ax ay bx by' w
  generalize (eqF ax bx && eqF ay by') = eb at *
  cases c1 : pointB ax ay
  · go_enter Try.func9, Try.ntmps9
    go_wp2_with (first | (go_at_call 31; (first | (with_reducible refine (Ret.at_ext (segment_c _ _ _ _ _ _ _ t0 _)).mono ?_) | (with_reducible refine (segment_c _ _ _ _ _ _ _ t0 _).mono ?_)); rintro e w' ⟨rfl, u, rfl⟩) | (go_at_call 20; (first | (with_reducible refine (Ret.at_ext (point_c _ _ (by assumption) (by assumption) _)).mono ?_) | (with_reducible refine (point_c _ _ (by assumption) (by assumption) _).mono ?_)); rintro e w' ⟨rfl, u, rfl⟩))
    go_ret
    exact Ret.mk rfl (by repeat (first | (with_reducible exact Kp.refl _) | (with_reducible assumption) | (with_reducible apply Kp.ext) | (with_reducible apply Kp.alloc) | (with_reducible apply Kp.drew) | (with_reducible apply Kp.drewN) | (with_reducible refine Kp.setCell ?_ (by first | (dsimp only; omega) | (simp; omega) | (simp; done) | (simp [size_ext_eq]; omega)) _)))
  · cases c2 : pointB bx by'
    · go_enter Try.func9, Try.ntmps9
      go_wp2_with (first | (go_at_call 31; (first | (with_reducible refine (Ret.at_ext (segment_c _ _ _ _ _ _ _ t0 _)).mono ?_) | (with_reducible refine (segment_c _ _ _ _ _ _ _ t0 _).mono ?_)); rintro e w' ⟨rfl, u, rfl⟩) | (go_at_call 20; (first | (with_reducible refine (Ret.at_ext (point_c _ _ (by assumption) (by assumption) _)).mono ?_) | (with_reducible refine (point_c _ _ (by assumption) (by assumption) _).mono ?_)); rintro e w' ⟨rfl, u, rfl⟩))
      go_ret
      exact Ret.mk rfl (by repeat (first | (with_reducible exact Kp.refl _) | (with_reducible assumption) | (with_reducible apply Kp.ext) | (with_reducible apply Kp.alloc) | (with_reducible apply Kp.drew) | (with_reducible apply Kp.drewN) | (with_reducible refine Kp.setCell ?_ (by first | (dsimp only; omega) | (simp; omega) | (simp; done) | (simp [size_ext_eq]; omega)) _)))
    · cases c3 : pointB px py
      · go_enter Try.func9, Try.ntmps9
        go_wp2_with (first | (go_at_call 31; (first | (with_reducible refine (Ret.at_ext (segment_c _ _ _ _ _ _ _ t0 _)).mono ?_) | (with_reducible refine (segment_c _ _ _ _ _ _ _ t0 _).mono ?_)); rintro e w' ⟨rfl, u, rfl⟩) | (go_at_call 20; (first | (with_reducible refine (Ret.at_ext (point_c _ _ (by assumption) (by assumption) _)).mono ?_) | (with_reducible refine (point_c _ _ (by assumption) (by assumption) _).mono ?_)); rintro e w' ⟨rfl, u, rfl⟩))
        go_ret
        exact Ret.mk rfl (by repeat (first | (with_reducible exact Kp.refl _) | (with_reducible assumption) | (with_reducible apply Kp.ext) | (with_reducible apply Kp.alloc) | (with_reducible apply Kp.drew) | (with_reducible apply Kp.drewN) | (with_reducible refine Kp.setCell ?_ (by first | (dsimp only; omega) | (simp; omega) | (simp; done) | (simp [size_ext_eq]; omega)) _)))
      · rw [c1, c2, c3] at hc
        have hc : eb = true := by simpa using hc
        rw [hc] at heq
        go_enter Try.func9, Try.ntmps9
        go_wp2_with (first | (go_at_call 31; (first | (with_reducible refine (Ret.at_ext (segment_c _ _ _ _ _ _ _ t0 _)).mono ?_) | (with_reducible refine (segment_c _ _ _ _ _ _ _ t0 _).mono ?_)); rintro e w' ⟨rfl, u, rfl⟩) | (go_at_call 20; (first | (with_reducible refine (Ret.at_ext (point_c _ _ (by assumption) (by assumption) _)).mono ?_) | (with_reducible refine (point_c _ _ (by assumption) (by assumption) _).mono ?_)); rintro e w' ⟨rfl, u, rfl⟩))
        go_ret
        exact Ret.mk rfl (by repeat (first | (with_reducible exact Kp.refl _) | (with_reducible assumption) | (with_reducible apply Kp.ext) | (with_reducible apply Kp.alloc) | (with_reducible apply Kp.drew) | (with_reducible apply Kp.drewN) | (with_reducible refine Kp.setCell ?_ (by first | (dsimp only; omega) | (simp; omega) | (simp; done) | (simp [size_ext_eq]; omega)) _)))

set_option maxRecDepth 100000 in
set_option maxHeartbeats 1000000 in
theorem segmentAny_yes (ax ay bx by' px py : Nat) (k1 : ax < 2 ^ 64) (k2 : ay < 2 ^ 64) (k3 : bx < 2 ^ 64) (k4 : by' < 2 ^ 64) (k5 : px < 2 ^ 64) (k6 : py < 2 ^ 64) (c1 : pointB ax ay = true) (c2 : pointB bx by' = true) (c3 : pointB px py = true) (hne : (eqF ax bx && eqF ay by') = false) (w : World) :
    Calls Try.prog 9 #[.agg #[.float .f64 ax, .float .f64 ay], .agg #[.float .f64 bx, .float .f64 by'], .agg #[.float .f64 px, .float .f64 py]] w (Ret w (.bool true)) := by
  obtain ⟨r0, t0, t1⟩ := works_seg2
  have heq : ∀ w, _ := fun w => run_eql_pt ax ay bx by' w
  obtain ⟨a, b, i1, i2, _, _⟩ := pointB_int k1 k2 c1
  obtain ⟨c, d, i3, i4, _, _⟩ := pointB_int k3 k4 c2
  obtain ⟨e, f, i5, i6, _, _⟩ := pointB_int k5 k6 c3
  have hD : 0 < (c - a) * (c - a) + (d - b) * (d - b) := by
    rw [eqF_int i1 i3, eqF_int i2 i4] at hne
    have h1 := sq_nn (c - a)
    have h2 := sq_nn (d - b)
    by_cases z : c - a = 0
    · have : d - b ≠ 0 := fun z2 => by
        have e1 : a = c := by omega
        have e2 : b = d := by omega
        rw [decide_eq_true e1, decide_eq_true e2] at hne
        cases hne
      have := sq_pos this
      omega
    · have := sq_pos z
      omega
  rw [hne] at heq
  obtain ⟨r, hs, so, o1, n1, n2⟩ := seg_any i1 i2 i3 i4 i5 i6 hD (by omega) (by omega) (by omega) (by omega) (by omega) (by omega)
  clear i1 i2 i3 i4 i5 i6 hD hne
  cases hl : ltF (sqrtF r) 4562254508917369340
  · obtain ⟨o2, n2⟩ := n2 hl
    go_enter Try.func9, Try.ntmps9
    go_wp2_with (first | (go_at_call 31; (first | (with_reducible refine (Ret.at_ext (segment_c _ _ _ _ _ _ _ t0 _)).mono ?_) | (with_reducible refine (segment_c _ _ _ _ _ _ _ t0 _).mono ?_)); rintro e w' ⟨rfl, u, rfl⟩) | (go_at_call 31; (first | (with_reducible refine (Ret.at_ext (segment_c _ _ _ _ _ _ _ hs _)).mono ?_) | (with_reducible refine (segment_c _ _ _ _ _ _ _ hs _).mono ?_)); rintro e w' ⟨rfl, u, rfl⟩) | (go_at_call 20; (first | (with_reducible refine (Ret.at_ext (point_c _ _ (by assumption) (by assumption) _)).mono ?_) | (with_reducible refine (point_c _ _ (by assumption) (by assumption) _).mono ?_)); rintro e w' ⟨rfl, u, rfl⟩) | (go_at_call 30; (first | (with_reducible refine (Ret.at_ext (sqrt_c _ so _)).mono ?_) | (with_reducible refine (sqrt_c _ so _).mono ?_)); rintro e w' ⟨rfl, u, rfl⟩) | (go_at_call 32; (first | (with_reducible refine (Ret.at_ext (near_c _ _ _ _ _ _ _ _ n1 _)).mono ?_) | (with_reducible refine (near_c _ _ _ _ _ _ _ _ n1 _).mono ?_)); rintro e w' ⟨rfl, u, rfl⟩) | (go_at_call 32; (first | (with_reducible refine (Ret.at_ext (near_c _ _ _ _ _ _ _ _ n2 _)).mono ?_) | (with_reducible refine (near_c _ _ _ _ _ _ _ _ n2 _).mono ?_)); rintro e w' ⟨rfl, u, rfl⟩))
    go_ret
    exact Ret.mk rfl (by repeat (first | (with_reducible exact Kp.refl _) | (with_reducible assumption) | (with_reducible apply Kp.ext) | (with_reducible apply Kp.alloc) | (with_reducible apply Kp.drew) | (with_reducible apply Kp.drewN) | (with_reducible refine Kp.setCell ?_ (by first | (dsimp only; omega) | (simp; omega) | (simp; done) | (simp [size_ext_eq]; omega)) _)))
  · clear n2
    go_enter Try.func9, Try.ntmps9
    go_wp2_with (first | (go_at_call 31; (first | (with_reducible refine (Ret.at_ext (segment_c _ _ _ _ _ _ _ t0 _)).mono ?_) | (with_reducible refine (segment_c _ _ _ _ _ _ _ t0 _).mono ?_)); rintro e w' ⟨rfl, u, rfl⟩) | (go_at_call 31; (first | (with_reducible refine (Ret.at_ext (segment_c _ _ _ _ _ _ _ hs _)).mono ?_) | (with_reducible refine (segment_c _ _ _ _ _ _ _ hs _).mono ?_)); rintro e w' ⟨rfl, u, rfl⟩) | (go_at_call 20; (first | (with_reducible refine (Ret.at_ext (point_c _ _ (by assumption) (by assumption) _)).mono ?_) | (with_reducible refine (point_c _ _ (by assumption) (by assumption) _).mono ?_)); rintro e w' ⟨rfl, u, rfl⟩) | (go_at_call 30; (first | (with_reducible refine (Ret.at_ext (sqrt_c _ so _)).mono ?_) | (with_reducible refine (sqrt_c _ so _).mono ?_)); rintro e w' ⟨rfl, u, rfl⟩) | (go_at_call 32; (first | (with_reducible refine (Ret.at_ext (near_c _ _ _ _ _ _ _ _ n1 _)).mono ?_) | (with_reducible refine (near_c _ _ _ _ _ _ _ _ n1 _).mono ?_)); rintro e w' ⟨rfl, u, rfl⟩))
    go_ret
    exact Ret.mk rfl (by repeat (first | (with_reducible exact Kp.refl _) | (with_reducible assumption) | (with_reducible apply Kp.ext) | (with_reducible apply Kp.alloc) | (with_reducible apply Kp.drew) | (with_reducible apply Kp.drewN) | (with_reducible refine Kp.setCell ?_ (by first | (dsimp only; omega) | (simp; omega) | (simp; done) | (simp [size_ext_eq]; omega)) _)))

theorem segmentAny_walk (ax ay bx by' px py : Nat) (k1 : ax < 2 ^ 64) (k2 : ay < 2 ^ 64) (k3 : bx < 2 ^ 64) (k4 : by' < 2 ^ 64) (k5 : px < 2 ^ 64) (k6 : py < 2 ^ 64) (w : World) :
    Calls Try.prog 9 #[.agg #[.float .f64 ax, .float .f64 ay], .agg #[.float .f64 bx, .float .f64 by'], .agg #[.float .f64 px, .float .f64 py]] w (Ret w (.bool true)) := by
  by_cases hc : (pointB ax ay && pointB bx by' && pointB px py && !(eqF ax bx && eqF ay by')) = true
  · simp only [Bool.and_eq_true] at hc
    obtain ⟨⟨⟨c1, c2⟩, c3⟩, c4⟩ := hc
    exact segmentAny_yes ax ay bx by' px py k1 k2 k3 k4 k5 k6 c1 c2 c3 (by
      cases hh : (eqF ax bx && eqF ay by')
      · rfl
      · rw [hh] at c4; cases c4) w
  · exact segmentAny_no ax ay bx by' px py k1 k2 k3 k4 k5 k6 (by simpa using hc) w
end Go.Proofs.Ytdkadjjapmcadaa
