/-
  planar.RingContains on the small square, and laws.measures.
-/
import Derived.Test.YtnmdgdmnmoghhaaDoorBound
import Derived.Test.YtnmdgdmnmoghhaaDoorArea2
namespace Go.Proofs.YtnmdgdmnmoghhaaDoor
open PubFl Go.RowKit

attribute [local go_sem] cell_ext frozen_ext ext_setCell cell_store size_ext_eq lt_p0 lt_p1 lt_p2 lt_p3 lt_p4 lt_p5 lt_p6 lt_p7 lt_p8 lt_p9 lt_p10 lt_p11 lt_p12 lt_p13 lt_p14 lt_p15 lt_p16 lt_p17 lt_p18 lt_p19 lt_p20 lt_p21 lt_p22 lt_p23 lt_p24 lt_p25 lt_p26 lt_p27 lt_p28 lt_p29 lt_p30 lt_p31 lt_p32 lt_q1 lt_q2 lt_q3 lt_q4 lt_q5 lt_q6 lt_q7 lt_q8 lt_q9 lt_q10 lt_q11 lt_q12 lt_q13 lt_q14 lt_q15 lt_q16 lt_q17 lt_q18 lt_q19 lt_q20 lt_q21 lt_q22 lt_q23 lt_q24 lt_q25 lt_q26 lt_q27 lt_q28 lt_q29 lt_q30 lt_q31 lt_q32 run_fop run_store_float
attribute [local go_sem high] cmp_eql cmp_neq cmp_lss cmp_leq cmp_gtr cmp_geq

theorem l01 : ltF 0 4607182418800017408 = true := by decide +kernel
theorem l04 : ltF 0 4616189618054758400 = true := by decide +kernel
theorem l14 : ltF 4607182418800017408 4616189618054758400 = true := by decide +kernel
theorem l00 : ltF 0 0 = false := by decide +kernel
theorem l10 : ltF 4607182418800017408 0 = false := by decide +kernel
theorem l40 : ltF 4616189618054758400 0 = false := by decide +kernel
theorem l41 : ltF 4616189618054758400 4607182418800017408 = false := by decide +kernel
theorem l44 : ltF 4616189618054758400 4616189618054758400 = false := by decide +kernel
theorem g01 : gtF 0 4607182418800017408 = false := by decide +kernel
theorem g04 : gtF 0 4616189618054758400 = false := by decide +kernel
theorem g14 : gtF 4607182418800017408 4616189618054758400 = false := by decide +kernel
theorem g00 : gtF 0 0 = false := by decide +kernel
theorem g10 : gtF 4607182418800017408 0 = true := by decide +kernel
theorem g40 : gtF 4616189618054758400 0 = true := by decide +kernel
theorem g41 : gtF 4616189618054758400 4607182418800017408 = true := by decide +kernel
theorem g44 : gtF 4616189618054758400 4616189618054758400 = false := by decide +kernel
theorem e01 : eqF 0 4607182418800017408 = false := by decide +kernel
theorem e04 : eqF 0 4616189618054758400 = false := by decide +kernel
theorem e14 : eqF 4607182418800017408 4616189618054758400 = false := by decide +kernel
theorem e00 : eqF 0 0 = true := by decide +kernel
theorem e10 : eqF 4607182418800017408 0 = false := by decide +kernel
theorem e40 : eqF 4616189618054758400 0 = false := by decide +kernel
theorem e41 : eqF 4616189618054758400 4607182418800017408 = false := by decide +kernel
theorem e44 : eqF 4616189618054758400 4616189618054758400 = true := by decide +kernel
attribute [local go_sem] l01 l04 l14 l00 l10 l40 l41 l44 g01 g04 g14 g00 g10 g40 g41 g44 e01 e04 e14 e00 e10 e40 e41 e44

set_option maxRecDepth 100000 in
set_option maxHeartbeats 1000000 in
theorem ray0 (w : World) : Calls Tryd.prog 32 #[.agg #[.float .f64 4607182418800017408, .float .f64 4607182418800017408], .agg #[.float .f64 0, .float .f64 0], .agg #[.float .f64 0, .float .f64 0]] w (Ret w (.tuple #[.bool false, .bool false])) := by
  go_enter Tryd.func32, Tryd.ntmps32
  go_wp2_with fail
  go_ret2
  exact Ret.mk rfl (by repeat (first | (with_reducible exact Kp.refl _) | (with_reducible assumption) | (with_reducible apply Kp.ext) | (with_reducible apply Kp.alloc) | (with_reducible apply Kp.drew) | (with_reducible apply Kp.drewN) | (with_reducible refine Kp.setCell ?_ (by first | (dsimp only; omega) | (simp; omega) | (simp; done) | (simp [size_ext_eq]; omega)) _)))
set_option maxRecDepth 100000 in
set_option maxHeartbeats 1000000 in
theorem ray1 (w : World) : Calls Tryd.prog 32 #[.agg #[.float .f64 4607182418800017408, .float .f64 4607182418800017408], .agg #[.float .f64 0, .float .f64 0], .agg #[.float .f64 4616189618054758400, .float .f64 0]] w (Ret w (.tuple #[.bool false, .bool false])) := by
  go_enter Tryd.func32, Tryd.ntmps32
  go_wp2_with fail
  go_ret2
  exact Ret.mk rfl (by repeat (first | (with_reducible exact Kp.refl _) | (with_reducible assumption) | (with_reducible apply Kp.ext) | (with_reducible apply Kp.alloc) | (with_reducible apply Kp.drew) | (with_reducible apply Kp.drewN) | (with_reducible refine Kp.setCell ?_ (by first | (dsimp only; omega) | (simp; omega) | (simp; done) | (simp [size_ext_eq]; omega)) _)))
set_option maxRecDepth 100000 in
set_option maxHeartbeats 1000000 in
theorem ray2 (w : World) : Calls Tryd.prog 32 #[.agg #[.float .f64 4607182418800017408, .float .f64 4607182418800017408], .agg #[.float .f64 4616189618054758400, .float .f64 0], .agg #[.float .f64 4616189618054758400, .float .f64 4616189618054758400]] w (Ret w (.tuple #[.bool false, .bool false])) := by
  go_enter Tryd.func32, Tryd.ntmps32
  go_wp2_with fail
  go_ret2
  exact Ret.mk rfl (by repeat (first | (with_reducible exact Kp.refl _) | (with_reducible assumption) | (with_reducible apply Kp.ext) | (with_reducible apply Kp.alloc) | (with_reducible apply Kp.drew) | (with_reducible apply Kp.drewN) | (with_reducible refine Kp.setCell ?_ (by first | (dsimp only; omega) | (simp; omega) | (simp; done) | (simp [size_ext_eq]; omega)) _)))
set_option maxRecDepth 100000 in
set_option maxHeartbeats 1000000 in
theorem ray3 (w : World) : Calls Tryd.prog 32 #[.agg #[.float .f64 4607182418800017408, .float .f64 4607182418800017408], .agg #[.float .f64 4616189618054758400, .float .f64 4616189618054758400], .agg #[.float .f64 0, .float .f64 4616189618054758400]] w (Ret w (.tuple #[.bool true, .bool false])) := by
  go_enter Tryd.func32, Tryd.ntmps32
  go_wp2_with fail
  go_ret2
  exact Ret.mk rfl (by repeat (first | (with_reducible exact Kp.refl _) | (with_reducible assumption) | (with_reducible apply Kp.ext) | (with_reducible apply Kp.alloc) | (with_reducible apply Kp.drew) | (with_reducible apply Kp.drewN) | (with_reducible refine Kp.setCell ?_ (by first | (dsimp only; omega) | (simp; omega) | (simp; done) | (simp [size_ext_eq]; omega)) _)))
set_option maxRecDepth 100000 in
set_option maxHeartbeats 1000000 in
theorem ray4 (w : World) : Calls Tryd.prog 32 #[.agg #[.float .f64 4607182418800017408, .float .f64 4607182418800017408], .agg #[.float .f64 0, .float .f64 4616189618054758400], .agg #[.float .f64 0, .float .f64 0]] w (Ret w (.tuple #[.bool false, .bool false])) := by
  go_enter Tryd.func32, Tryd.ntmps32
  go_wp2_with fail
  go_ret2
  exact Ret.mk rfl (by repeat (first | (with_reducible exact Kp.refl _) | (with_reducible assumption) | (with_reducible apply Kp.ext) | (with_reducible apply Kp.alloc) | (with_reducible apply Kp.drew) | (with_reducible apply Kp.drewN) | (with_reducible refine Kp.setCell ?_ (by first | (dsimp only; omega) | (simp; omega) | (simp; done) | (simp [size_ext_eq]; omega)) _)))
end Go.Proofs.YtnmdgdmnmoghhaaDoor
