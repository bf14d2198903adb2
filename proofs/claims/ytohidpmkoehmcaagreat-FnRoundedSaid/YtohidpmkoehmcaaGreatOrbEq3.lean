/-
  orb.Equal of two geometries of different kinds; of any two.
-/
import Derived.Test.YtohidpmkoehmcaaGreatOrbEq2
namespace Go.Proofs.YtohidpmkoehmcaaGreat
open PubFl Go.RowKit

attribute [local go_sem] cell_ext frozen_ext ext_setCell cell_store size_ext_eq lt_p0 lt_p1 lt_p2 lt_p3 lt_p4 lt_p5 lt_p6 lt_p7 lt_p8 lt_p9 lt_p10 lt_p11 lt_p12 lt_p13 lt_p14 lt_p15 lt_p16 lt_p17 lt_p18 lt_p19 lt_p20 lt_p21 lt_p22 lt_p23 lt_p24 lt_p25 lt_p26 lt_p27 lt_p28 lt_p29 lt_p30 lt_p31 lt_p32 lt_q1 lt_q2 lt_q3 lt_q4 lt_q5 lt_q6 lt_q7 lt_q8 lt_q9 lt_q10 lt_q11 lt_q12 lt_q13 lt_q14 lt_q15 lt_q16 lt_q17 lt_q18 lt_q19 lt_q20 lt_q21 lt_q22 lt_q23 lt_q24 lt_q25 lt_q26 lt_q27 lt_q28 lt_q29 lt_q30 lt_q31 lt_q32 run_fop run_store_float
attribute [local go_sem high] cmp_eql cmp_neq cmp_lss cmp_leq cmp_gtr cmp_geq

@[local go_sem] theorem ne_12 : ("Point".toByteArray.toList == "LineString".toByteArray.toList) = false := by kernel_rfl
set_option maxRecDepth 100000 in
set_option maxHeartbeats 1000000 in
theorem diff_12 (x x' : Nat) (y : Value) (w : World) : Calls Tryz.prog 24 #[.iface 51 (.agg #[.float .f64 x, .float .f64 x']), .iface 59 y] w (Ret w (.bool false)) := by
  go_enter Tryz.func24, Tryz.ntmps24
  go_wp2_with (first | (go_at_call 63; (first | (with_reducible refine (Ret.at_ext (gt_Point _ _ _)).mono ?_) | (with_reducible refine (gt_Point _ _ _).mono ?_)); rintro e w' ⟨rfl, u, rfl⟩) | (go_at_call 71; (first | (with_reducible refine (Ret.at_ext (gt_LineString _ _)).mono ?_) | (with_reducible refine (gt_LineString _ _).mono ?_)); rintro e w' ⟨rfl, u, rfl⟩))
  exact bodyPost_ret (v := .bool false) (by simp [results, Tryz.results24, go_sem]) rfl (Ret.mk rfl (by repeat (first | (with_reducible exact Kp.refl _) | (with_reducible assumption) | (with_reducible apply Kp.ext) | (with_reducible apply Kp.alloc) | (with_reducible apply Kp.drew) | (with_reducible apply Kp.drewN) | (with_reducible refine Kp.setCell ?_ (by first | (dsimp only; omega) | (simp; omega) | (simp; done) | (simp [size_ext_eq]; omega)) _))))
@[local go_sem] theorem ne_13 : ("Point".toByteArray.toList == "Polygon".toByteArray.toList) = false := by kernel_rfl
set_option maxRecDepth 100000 in
set_option maxHeartbeats 1000000 in
theorem diff_13 (x x' : Nat) (y : Value) (w : World) : Calls Tryz.prog 24 #[.iface 51 (.agg #[.float .f64 x, .float .f64 x']), .iface 61 y] w (Ret w (.bool false)) := by
  go_enter Tryz.func24, Tryz.ntmps24
  go_wp2_with (first | (go_at_call 63; (first | (with_reducible refine (Ret.at_ext (gt_Point _ _ _)).mono ?_) | (with_reducible refine (gt_Point _ _ _).mono ?_)); rintro e w' ⟨rfl, u, rfl⟩) | (go_at_call 90; (first | (with_reducible refine (Ret.at_ext (gt_Polygon _ _)).mono ?_) | (with_reducible refine (gt_Polygon _ _).mono ?_)); rintro e w' ⟨rfl, u, rfl⟩))
  exact bodyPost_ret (v := .bool false) (by simp [results, Tryz.results24, go_sem]) rfl (Ret.mk rfl (by repeat (first | (with_reducible exact Kp.refl _) | (with_reducible assumption) | (with_reducible apply Kp.ext) | (with_reducible apply Kp.alloc) | (with_reducible apply Kp.drew) | (with_reducible apply Kp.drewN) | (with_reducible refine Kp.setCell ?_ (by first | (dsimp only; omega) | (simp; omega) | (simp; done) | (simp [size_ext_eq]; omega)) _))))
@[local go_sem] theorem ne_14 : ("Point".toByteArray.toList == "MultiPoint".toByteArray.toList) = false := by kernel_rfl
set_option maxRecDepth 100000 in
set_option maxHeartbeats 1000000 in
theorem diff_14 (x x' : Nat) (y : Value) (w : World) : Calls Tryz.prog 24 #[.iface 51 (.agg #[.float .f64 x, .float .f64 x']), .iface 63 y] w (Ret w (.bool false)) := by
  go_enter Tryz.func24, Tryz.ntmps24
  go_wp2_with (first | (go_at_call 63; (first | (with_reducible refine (Ret.at_ext (gt_Point _ _ _)).mono ?_) | (with_reducible refine (gt_Point _ _ _).mono ?_)); rintro e w' ⟨rfl, u, rfl⟩) | (go_at_call 94; (first | (with_reducible refine (Ret.at_ext (gt_MultiPoint _ _)).mono ?_) | (with_reducible refine (gt_MultiPoint _ _).mono ?_)); rintro e w' ⟨rfl, u, rfl⟩))
  exact bodyPost_ret (v := .bool false) (by simp [results, Tryz.results24, go_sem]) rfl (Ret.mk rfl (by repeat (first | (with_reducible exact Kp.refl _) | (with_reducible assumption) | (with_reducible apply Kp.ext) | (with_reducible apply Kp.alloc) | (with_reducible apply Kp.drew) | (with_reducible apply Kp.drewN) | (with_reducible refine Kp.setCell ?_ (by first | (dsimp only; omega) | (simp; omega) | (simp; done) | (simp [size_ext_eq]; omega)) _))))
@[local go_sem] theorem ne_15 : ("Point".toByteArray.toList == "MultiLineString".toByteArray.toList) = false := by kernel_rfl
set_option maxRecDepth 100000 in
set_option maxHeartbeats 1000000 in
theorem diff_15 (x x' : Nat) (y : Value) (w : World) : Calls Tryz.prog 24 #[.iface 51 (.agg #[.float .f64 x, .float .f64 x']), .iface 65 y] w (Ret w (.bool false)) := by
  go_enter Tryz.func24, Tryz.ntmps24
  go_wp2_with (first | (go_at_call 63; (first | (with_reducible refine (Ret.at_ext (gt_Point _ _ _)).mono ?_) | (with_reducible refine (gt_Point _ _ _).mono ?_)); rintro e w' ⟨rfl, u, rfl⟩) | (go_at_call 98; (first | (with_reducible refine (Ret.at_ext (gt_MultiLineString _ _)).mono ?_) | (with_reducible refine (gt_MultiLineString _ _).mono ?_)); rintro e w' ⟨rfl, u, rfl⟩))
  exact bodyPost_ret (v := .bool false) (by simp [results, Tryz.results24, go_sem]) rfl (Ret.mk rfl (by repeat (first | (with_reducible exact Kp.refl _) | (with_reducible assumption) | (with_reducible apply Kp.ext) | (with_reducible apply Kp.alloc) | (with_reducible apply Kp.drew) | (with_reducible apply Kp.drewN) | (with_reducible refine Kp.setCell ?_ (by first | (dsimp only; omega) | (simp; omega) | (simp; done) | (simp [size_ext_eq]; omega)) _))))
@[local go_sem] theorem ne_16 : ("Point".toByteArray.toList == "MultiPolygon".toByteArray.toList) = false := by kernel_rfl
set_option maxRecDepth 100000 in
set_option maxHeartbeats 1000000 in
theorem diff_16 (x x' : Nat) (y : Value) (w : World) : Calls Tryz.prog 24 #[.iface 51 (.agg #[.float .f64 x, .float .f64 x']), .iface 67 y] w (Ret w (.bool false)) := by
  go_enter Tryz.func24, Tryz.ntmps24
  go_wp2_with (first | (go_at_call 63; (first | (with_reducible refine (Ret.at_ext (gt_Point _ _ _)).mono ?_) | (with_reducible refine (gt_Point _ _ _).mono ?_)); rintro e w' ⟨rfl, u, rfl⟩) | (go_at_call 109; (first | (with_reducible refine (Ret.at_ext (gt_MultiPolygon _ _)).mono ?_) | (with_reducible refine (gt_MultiPolygon _ _).mono ?_)); rintro e w' ⟨rfl, u, rfl⟩))
  exact bodyPost_ret (v := .bool false) (by simp [results, Tryz.results24, go_sem]) rfl (Ret.mk rfl (by repeat (first | (with_reducible exact Kp.refl _) | (with_reducible assumption) | (with_reducible apply Kp.ext) | (with_reducible apply Kp.alloc) | (with_reducible apply Kp.drew) | (with_reducible apply Kp.drewN) | (with_reducible refine Kp.setCell ?_ (by first | (dsimp only; omega) | (simp; omega) | (simp; done) | (simp [size_ext_eq]; omega)) _))))
@[local go_sem] theorem ne_17 : ("Point".toByteArray.toList == "GeometryCollection".toByteArray.toList) = false := by kernel_rfl
set_option maxRecDepth 100000 in
set_option maxHeartbeats 1000000 in
theorem diff_17 (x x' : Nat) (y : Value) (w : World) : Calls Tryz.prog 24 #[.iface 51 (.agg #[.float .f64 x, .float .f64 x']), .iface 69 y] w (Ret w (.bool false)) := by
  go_enter Tryz.func24, Tryz.ntmps24
  go_wp2_with (first | (go_at_call 63; (first | (with_reducible refine (Ret.at_ext (gt_Point _ _ _)).mono ?_) | (with_reducible refine (gt_Point _ _ _).mono ?_)); rintro e w' ⟨rfl, u, rfl⟩) | (go_at_call 113; (first | (with_reducible refine (Ret.at_ext (gt_Collection _ _)).mono ?_) | (with_reducible refine (gt_Collection _ _).mono ?_)); rintro e w' ⟨rfl, u, rfl⟩))
  exact bodyPost_ret (v := .bool false) (by simp [results, Tryz.results24, go_sem]) rfl (Ret.mk rfl (by repeat (first | (with_reducible exact Kp.refl _) | (with_reducible assumption) | (with_reducible apply Kp.ext) | (with_reducible apply Kp.alloc) | (with_reducible apply Kp.drew) | (with_reducible apply Kp.drewN) | (with_reducible refine Kp.setCell ?_ (by first | (dsimp only; omega) | (simp; omega) | (simp; done) | (simp [size_ext_eq]; omega)) _))))
@[local go_sem] theorem ne_21 : ("LineString".toByteArray.toList == "Point".toByteArray.toList) = false := by kernel_rfl
set_option maxRecDepth 100000 in
set_option maxHeartbeats 1000000 in
theorem diff_21 (x : Value) (y y' : Nat) (w : World) : Calls Tryz.prog 24 #[.iface 59 x, .iface 51 (.agg #[.float .f64 y, .float .f64 y'])] w (Ret w (.bool false)) := by
  go_enter Tryz.func24, Tryz.ntmps24
  go_wp2_with (first | (go_at_call 71; (first | (with_reducible refine (Ret.at_ext (gt_LineString _ _)).mono ?_) | (with_reducible refine (gt_LineString _ _).mono ?_)); rintro e w' ⟨rfl, u, rfl⟩) | (go_at_call 63; (first | (with_reducible refine (Ret.at_ext (gt_Point _ _ _)).mono ?_) | (with_reducible refine (gt_Point _ _ _).mono ?_)); rintro e w' ⟨rfl, u, rfl⟩))
  exact bodyPost_ret (v := .bool false) (by simp [results, Tryz.results24, go_sem]) rfl (Ret.mk rfl (by repeat (first | (with_reducible exact Kp.refl _) | (with_reducible assumption) | (with_reducible apply Kp.ext) | (with_reducible apply Kp.alloc) | (with_reducible apply Kp.drew) | (with_reducible apply Kp.drewN) | (with_reducible refine Kp.setCell ?_ (by first | (dsimp only; omega) | (simp; omega) | (simp; done) | (simp [size_ext_eq]; omega)) _))))
@[local go_sem] theorem ne_23 : ("LineString".toByteArray.toList == "Polygon".toByteArray.toList) = false := by kernel_rfl
set_option maxRecDepth 100000 in
set_option maxHeartbeats 1000000 in
theorem diff_23 (x : Value) (y : Value) (w : World) : Calls Tryz.prog 24 #[.iface 59 x, .iface 61 y] w (Ret w (.bool false)) := by
  go_enter Tryz.func24, Tryz.ntmps24
  go_wp2_with (first | (go_at_call 71; (first | (with_reducible refine (Ret.at_ext (gt_LineString _ _)).mono ?_) | (with_reducible refine (gt_LineString _ _).mono ?_)); rintro e w' ⟨rfl, u, rfl⟩) | (go_at_call 90; (first | (with_reducible refine (Ret.at_ext (gt_Polygon _ _)).mono ?_) | (with_reducible refine (gt_Polygon _ _).mono ?_)); rintro e w' ⟨rfl, u, rfl⟩))
  exact bodyPost_ret (v := .bool false) (by simp [results, Tryz.results24, go_sem]) rfl (Ret.mk rfl (by repeat (first | (with_reducible exact Kp.refl _) | (with_reducible assumption) | (with_reducible apply Kp.ext) | (with_reducible apply Kp.alloc) | (with_reducible apply Kp.drew) | (with_reducible apply Kp.drewN) | (with_reducible refine Kp.setCell ?_ (by first | (dsimp only; omega) | (simp; omega) | (simp; done) | (simp [size_ext_eq]; omega)) _))))
@[local go_sem] theorem ne_24 : ("LineString".toByteArray.toList == "MultiPoint".toByteArray.toList) = false := by kernel_rfl
set_option maxRecDepth 100000 in
set_option maxHeartbeats 1000000 in
theorem diff_24 (x : Value) (y : Value) (w : World) : Calls Tryz.prog 24 #[.iface 59 x, .iface 63 y] w (Ret w (.bool false)) := by
  go_enter Tryz.func24, Tryz.ntmps24
  go_wp2_with (first | (go_at_call 71; (first | (with_reducible refine (Ret.at_ext (gt_LineString _ _)).mono ?_) | (with_reducible refine (gt_LineString _ _).mono ?_)); rintro e w' ⟨rfl, u, rfl⟩) | (go_at_call 94; (first | (with_reducible refine (Ret.at_ext (gt_MultiPoint _ _)).mono ?_) | (with_reducible refine (gt_MultiPoint _ _).mono ?_)); rintro e w' ⟨rfl, u, rfl⟩))
  exact bodyPost_ret (v := .bool false) (by simp [results, Tryz.results24, go_sem]) rfl (Ret.mk rfl (by repeat (first | (with_reducible exact Kp.refl _) | (with_reducible assumption) | (with_reducible apply Kp.ext) | (with_reducible apply Kp.alloc) | (with_reducible apply Kp.drew) | (with_reducible apply Kp.drewN) | (with_reducible refine Kp.setCell ?_ (by first | (dsimp only; omega) | (simp; omega) | (simp; done) | (simp [size_ext_eq]; omega)) _))))
@[local go_sem] theorem ne_25 : ("LineString".toByteArray.toList == "MultiLineString".toByteArray.toList) = false := by kernel_rfl
set_option maxRecDepth 100000 in
set_option maxHeartbeats 1000000 in
theorem diff_25 (x : Value) (y : Value) (w : World) : Calls Tryz.prog 24 #[.iface 59 x, .iface 65 y] w (Ret w (.bool false)) := by
  go_enter Tryz.func24, Tryz.ntmps24
  go_wp2_with (first | (go_at_call 71; (first | (with_reducible refine (Ret.at_ext (gt_LineString _ _)).mono ?_) | (with_reducible refine (gt_LineString _ _).mono ?_)); rintro e w' ⟨rfl, u, rfl⟩) | (go_at_call 98; (first | (with_reducible refine (Ret.at_ext (gt_MultiLineString _ _)).mono ?_) | (with_reducible refine (gt_MultiLineString _ _).mono ?_)); rintro e w' ⟨rfl, u, rfl⟩))
  exact bodyPost_ret (v := .bool false) (by simp [results, Tryz.results24, go_sem]) rfl (Ret.mk rfl (by repeat (first | (with_reducible exact Kp.refl _) | (with_reducible assumption) | (with_reducible apply Kp.ext) | (with_reducible apply Kp.alloc) | (with_reducible apply Kp.drew) | (with_reducible apply Kp.drewN) | (with_reducible refine Kp.setCell ?_ (by first | (dsimp only; omega) | (simp; omega) | (simp; done) | (simp [size_ext_eq]; omega)) _))))
@[local go_sem] theorem ne_26 : ("LineString".toByteArray.toList == "MultiPolygon".toByteArray.toList) = false := by kernel_rfl
set_option maxRecDepth 100000 in
set_option maxHeartbeats 1000000 in
theorem diff_26 (x : Value) (y : Value) (w : World) : Calls Tryz.prog 24 #[.iface 59 x, .iface 67 y] w (Ret w (.bool false)) := by
  go_enter Tryz.func24, Tryz.ntmps24
  go_wp2_with (first | (go_at_call 71; (first | (with_reducible refine (Ret.at_ext (gt_LineString _ _)).mono ?_) | (with_reducible refine (gt_LineString _ _).mono ?_)); rintro e w' ⟨rfl, u, rfl⟩) | (go_at_call 109; (first | (with_reducible refine (Ret.at_ext (gt_MultiPolygon _ _)).mono ?_) | (with_reducible refine (gt_MultiPolygon _ _).mono ?_)); rintro e w' ⟨rfl, u, rfl⟩))
  exact bodyPost_ret (v := .bool false) (by simp [results, Tryz.results24, go_sem]) rfl (Ret.mk rfl (by repeat (first | (with_reducible exact Kp.refl _) | (with_reducible assumption) | (with_reducible apply Kp.ext) | (with_reducible apply Kp.alloc) | (with_reducible apply Kp.drew) | (with_reducible apply Kp.drewN) | (with_reducible refine Kp.setCell ?_ (by first | (dsimp only; omega) | (simp; omega) | (simp; done) | (simp [size_ext_eq]; omega)) _))))
@[local go_sem] theorem ne_27 : ("LineString".toByteArray.toList == "GeometryCollection".toByteArray.toList) = false := by kernel_rfl
set_option maxRecDepth 100000 in
set_option maxHeartbeats 1000000 in
theorem diff_27 (x : Value) (y : Value) (w : World) : Calls Tryz.prog 24 #[.iface 59 x, .iface 69 y] w (Ret w (.bool false)) := by
  go_enter Tryz.func24, Tryz.ntmps24
  go_wp2_with (first | (go_at_call 71; (first | (with_reducible refine (Ret.at_ext (gt_LineString _ _)).mono ?_) | (with_reducible refine (gt_LineString _ _).mono ?_)); rintro e w' ⟨rfl, u, rfl⟩) | (go_at_call 113; (first | (with_reducible refine (Ret.at_ext (gt_Collection _ _)).mono ?_) | (with_reducible refine (gt_Collection _ _).mono ?_)); rintro e w' ⟨rfl, u, rfl⟩))
  exact bodyPost_ret (v := .bool false) (by simp [results, Tryz.results24, go_sem]) rfl (Ret.mk rfl (by repeat (first | (with_reducible exact Kp.refl _) | (with_reducible assumption) | (with_reducible apply Kp.ext) | (with_reducible apply Kp.alloc) | (with_reducible apply Kp.drew) | (with_reducible apply Kp.drewN) | (with_reducible refine Kp.setCell ?_ (by first | (dsimp only; omega) | (simp; omega) | (simp; done) | (simp [size_ext_eq]; omega)) _))))
@[local go_sem] theorem ne_31 : ("Polygon".toByteArray.toList == "Point".toByteArray.toList) = false := by kernel_rfl
set_option maxRecDepth 100000 in
set_option maxHeartbeats 1000000 in
theorem diff_31 (x : Value) (y y' : Nat) (w : World) : Calls Tryz.prog 24 #[.iface 61 x, .iface 51 (.agg #[.float .f64 y, .float .f64 y'])] w (Ret w (.bool false)) := by
  go_enter Tryz.func24, Tryz.ntmps24
  go_wp2_with (first | (go_at_call 90; (first | (with_reducible refine (Ret.at_ext (gt_Polygon _ _)).mono ?_) | (with_reducible refine (gt_Polygon _ _).mono ?_)); rintro e w' ⟨rfl, u, rfl⟩) | (go_at_call 63; (first | (with_reducible refine (Ret.at_ext (gt_Point _ _ _)).mono ?_) | (with_reducible refine (gt_Point _ _ _).mono ?_)); rintro e w' ⟨rfl, u, rfl⟩))
  exact bodyPost_ret (v := .bool false) (by simp [results, Tryz.results24, go_sem]) rfl (Ret.mk rfl (by repeat (first | (with_reducible exact Kp.refl _) | (with_reducible assumption) | (with_reducible apply Kp.ext) | (with_reducible apply Kp.alloc) | (with_reducible apply Kp.drew) | (with_reducible apply Kp.drewN) | (with_reducible refine Kp.setCell ?_ (by first | (dsimp only; omega) | (simp; omega) | (simp; done) | (simp [size_ext_eq]; omega)) _))))
@[local go_sem] theorem ne_32 : ("Polygon".toByteArray.toList == "LineString".toByteArray.toList) = false := by kernel_rfl
set_option maxRecDepth 100000 in
set_option maxHeartbeats 1000000 in
theorem diff_32 (x : Value) (y : Value) (w : World) : Calls Tryz.prog 24 #[.iface 61 x, .iface 59 y] w (Ret w (.bool false)) := by
  go_enter Tryz.func24, Tryz.ntmps24
  go_wp2_with (first | (go_at_call 90; (first | (with_reducible refine (Ret.at_ext (gt_Polygon _ _)).mono ?_) | (with_reducible refine (gt_Polygon _ _).mono ?_)); rintro e w' ⟨rfl, u, rfl⟩) | (go_at_call 71; (first | (with_reducible refine (Ret.at_ext (gt_LineString _ _)).mono ?_) | (with_reducible refine (gt_LineString _ _).mono ?_)); rintro e w' ⟨rfl, u, rfl⟩))
  exact bodyPost_ret (v := .bool false) (by simp [results, Tryz.results24, go_sem]) rfl (Ret.mk rfl (by repeat (first | (with_reducible exact Kp.refl _) | (with_reducible assumption) | (with_reducible apply Kp.ext) | (with_reducible apply Kp.alloc) | (with_reducible apply Kp.drew) | (with_reducible apply Kp.drewN) | (with_reducible refine Kp.setCell ?_ (by first | (dsimp only; omega) | (simp; omega) | (simp; done) | (simp [size_ext_eq]; omega)) _))))
@[local go_sem] theorem ne_34 : ("Polygon".toByteArray.toList == "MultiPoint".toByteArray.toList) = false := by kernel_rfl
set_option maxRecDepth 100000 in
set_option maxHeartbeats 1000000 in
theorem diff_34 (x : Value) (y : Value) (w : World) : Calls Tryz.prog 24 #[.iface 61 x, .iface 63 y] w (Ret w (.bool false)) := by
  go_enter Tryz.func24, Tryz.ntmps24
  go_wp2_with (first | (go_at_call 90; (first | (with_reducible refine (Ret.at_ext (gt_Polygon _ _)).mono ?_) | (with_reducible refine (gt_Polygon _ _).mono ?_)); rintro e w' ⟨rfl, u, rfl⟩) | (go_at_call 94; (first | (with_reducible refine (Ret.at_ext (gt_MultiPoint _ _)).mono ?_) | (with_reducible refine (gt_MultiPoint _ _).mono ?_)); rintro e w' ⟨rfl, u, rfl⟩))
  exact bodyPost_ret (v := .bool false) (by simp [results, Tryz.results24, go_sem]) rfl (Ret.mk rfl (by repeat (first | (with_reducible exact Kp.refl _) | (with_reducible assumption) | (with_reducible apply Kp.ext) | (with_reducible apply Kp.alloc) | (with_reducible apply Kp.drew) | (with_reducible apply Kp.drewN) | (with_reducible refine Kp.setCell ?_ (by first | (dsimp only; omega) | (simp; omega) | (simp; done) | (simp [size_ext_eq]; omega)) _))))
@[local go_sem] theorem ne_35 : ("Polygon".toByteArray.toList == "MultiLineString".toByteArray.toList) = false := by kernel_rfl
set_option maxRecDepth 100000 in
set_option maxHeartbeats 1000000 in
theorem diff_35 (x : Value) (y : Value) (w : World) : Calls Tryz.prog 24 #[.iface 61 x, .iface 65 y] w (Ret w (.bool false)) := by
  go_enter Tryz.func24, Tryz.ntmps24
  go_wp2_with (first | (go_at_call 90; (first | (with_reducible refine (Ret.at_ext (gt_Polygon _ _)).mono ?_) | (with_reducible refine (gt_Polygon _ _).mono ?_)); rintro e w' ⟨rfl, u, rfl⟩) | (go_at_call 98; (first | (with_reducible refine (Ret.at_ext (gt_MultiLineString _ _)).mono ?_) | (with_reducible refine (gt_MultiLineString _ _).mono ?_)); rintro e w' ⟨rfl, u, rfl⟩))
  exact bodyPost_ret (v := .bool false) (by simp [results, Tryz.results24, go_sem]) rfl (Ret.mk rfl (by repeat (first | (with_reducible exact Kp.refl _) | (with_reducible assumption) | (with_reducible apply Kp.ext) | (with_reducible apply Kp.alloc) | (with_reducible apply Kp.drew) | (with_reducible apply Kp.drewN) | (with_reducible refine Kp.setCell ?_ (by first | (dsimp only; omega) | (simp; omega) | (simp; done) | (simp [size_ext_eq]; omega)) _))))
@[local go_sem] theorem ne_36 : ("Polygon".toByteArray.toList == "MultiPolygon".toByteArray.toList) = false := by kernel_rfl
set_option maxRecDepth 100000 in
set_option maxHeartbeats 1000000 in
theorem diff_36 (x : Value) (y : Value) (w : World) : Calls Tryz.prog 24 #[.iface 61 x, .iface 67 y] w (Ret w (.bool false)) := by
  go_enter Tryz.func24, Tryz.ntmps24
  go_wp2_with (first | (go_at_call 90; (first | (with_reducible refine (Ret.at_ext (gt_Polygon _ _)).mono ?_) | (with_reducible refine (gt_Polygon _ _).mono ?_)); rintro e w' ⟨rfl, u, rfl⟩) | (go_at_call 109; (first | (with_reducible refine (Ret.at_ext (gt_MultiPolygon _ _)).mono ?_) | (with_reducible refine (gt_MultiPolygon _ _).mono ?_)); rintro e w' ⟨rfl, u, rfl⟩))
  exact bodyPost_ret (v := .bool false) (by simp [results, Tryz.results24, go_sem]) rfl (Ret.mk rfl (by repeat (first | (with_reducible exact Kp.refl _) | (with_reducible assumption) | (with_reducible apply Kp.ext) | (with_reducible apply Kp.alloc) | (with_reducible apply Kp.drew) | (with_reducible apply Kp.drewN) | (with_reducible refine Kp.setCell ?_ (by first | (dsimp only; omega) | (simp; omega) | (simp; done) | (simp [size_ext_eq]; omega)) _))))
@[local go_sem] theorem ne_37 : ("Polygon".toByteArray.toList == "GeometryCollection".toByteArray.toList) = false := by kernel_rfl
set_option maxRecDepth 100000 in
set_option maxHeartbeats 1000000 in
theorem diff_37 (x : Value) (y : Value) (w : World) : Calls Tryz.prog 24 #[.iface 61 x, .iface 69 y] w (Ret w (.bool false)) := by
  go_enter Tryz.func24, Tryz.ntmps24
  go_wp2_with (first | (go_at_call 90; (first | (with_reducible refine (Ret.at_ext (gt_Polygon _ _)).mono ?_) | (with_reducible refine (gt_Polygon _ _).mono ?_)); rintro e w' ⟨rfl, u, rfl⟩) | (go_at_call 113; (first | (with_reducible refine (Ret.at_ext (gt_Collection _ _)).mono ?_) | (with_reducible refine (gt_Collection _ _).mono ?_)); rintro e w' ⟨rfl, u, rfl⟩))
  exact bodyPost_ret (v := .bool false) (by simp [results, Tryz.results24, go_sem]) rfl (Ret.mk rfl (by repeat (first | (with_reducible exact Kp.refl _) | (with_reducible assumption) | (with_reducible apply Kp.ext) | (with_reducible apply Kp.alloc) | (with_reducible apply Kp.drew) | (with_reducible apply Kp.drewN) | (with_reducible refine Kp.setCell ?_ (by first | (dsimp only; omega) | (simp; omega) | (simp; done) | (simp [size_ext_eq]; omega)) _))))
@[local go_sem] theorem ne_41 : ("MultiPoint".toByteArray.toList == "Point".toByteArray.toList) = false := by kernel_rfl
set_option maxRecDepth 100000 in
set_option maxHeartbeats 1000000 in
theorem diff_41 (x : Value) (y y' : Nat) (w : World) : Calls Tryz.prog 24 #[.iface 63 x, .iface 51 (.agg #[.float .f64 y, .float .f64 y'])] w (Ret w (.bool false)) := by
  go_enter Tryz.func24, Tryz.ntmps24
  go_wp2_with (first | (go_at_call 94; (first | (with_reducible refine (Ret.at_ext (gt_MultiPoint _ _)).mono ?_) | (with_reducible refine (gt_MultiPoint _ _).mono ?_)); rintro e w' ⟨rfl, u, rfl⟩) | (go_at_call 63; (first | (with_reducible refine (Ret.at_ext (gt_Point _ _ _)).mono ?_) | (with_reducible refine (gt_Point _ _ _).mono ?_)); rintro e w' ⟨rfl, u, rfl⟩))
  exact bodyPost_ret (v := .bool false) (by simp [results, Tryz.results24, go_sem]) rfl (Ret.mk rfl (by repeat (first | (with_reducible exact Kp.refl _) | (with_reducible assumption) | (with_reducible apply Kp.ext) | (with_reducible apply Kp.alloc) | (with_reducible apply Kp.drew) | (with_reducible apply Kp.drewN) | (with_reducible refine Kp.setCell ?_ (by first | (dsimp only; omega) | (simp; omega) | (simp; done) | (simp [size_ext_eq]; omega)) _))))
@[local go_sem] theorem ne_42 : ("MultiPoint".toByteArray.toList == "LineString".toByteArray.toList) = false := by kernel_rfl
set_option maxRecDepth 100000 in
set_option maxHeartbeats 1000000 in
theorem diff_42 (x : Value) (y : Value) (w : World) : Calls Tryz.prog 24 #[.iface 63 x, .iface 59 y] w (Ret w (.bool false)) := by
  go_enter Tryz.func24, Tryz.ntmps24
  go_wp2_with (first | (go_at_call 94; (first | (with_reducible refine (Ret.at_ext (gt_MultiPoint _ _)).mono ?_) | (with_reducible refine (gt_MultiPoint _ _).mono ?_)); rintro e w' ⟨rfl, u, rfl⟩) | (go_at_call 71; (first | (with_reducible refine (Ret.at_ext (gt_LineString _ _)).mono ?_) | (with_reducible refine (gt_LineString _ _).mono ?_)); rintro e w' ⟨rfl, u, rfl⟩))
  exact bodyPost_ret (v := .bool false) (by simp [results, Tryz.results24, go_sem]) rfl (Ret.mk rfl (by repeat (first | (with_reducible exact Kp.refl _) | (with_reducible assumption) | (with_reducible apply Kp.ext) | (with_reducible apply Kp.alloc) | (with_reducible apply Kp.drew) | (with_reducible apply Kp.drewN) | (with_reducible refine Kp.setCell ?_ (by first | (dsimp only; omega) | (simp; omega) | (simp; done) | (simp [size_ext_eq]; omega)) _))))
@[local go_sem] theorem ne_43 : ("MultiPoint".toByteArray.toList == "Polygon".toByteArray.toList) = false := by kernel_rfl
set_option maxRecDepth 100000 in
set_option maxHeartbeats 1000000 in
theorem diff_43 (x : Value) (y : Value) (w : World) : Calls Tryz.prog 24 #[.iface 63 x, .iface 61 y] w (Ret w (.bool false)) := by
  go_enter Tryz.func24, Tryz.ntmps24
  go_wp2_with (first | (go_at_call 94; (first | (with_reducible refine (Ret.at_ext (gt_MultiPoint _ _)).mono ?_) | (with_reducible refine (gt_MultiPoint _ _).mono ?_)); rintro e w' ⟨rfl, u, rfl⟩) | (go_at_call 90; (first | (with_reducible refine (Ret.at_ext (gt_Polygon _ _)).mono ?_) | (with_reducible refine (gt_Polygon _ _).mono ?_)); rintro e w' ⟨rfl, u, rfl⟩))
  exact bodyPost_ret (v := .bool false) (by simp [results, Tryz.results24, go_sem]) rfl (Ret.mk rfl (by repeat (first | (with_reducible exact Kp.refl _) | (with_reducible assumption) | (with_reducible apply Kp.ext) | (with_reducible apply Kp.alloc) | (with_reducible apply Kp.drew) | (with_reducible apply Kp.drewN) | (with_reducible refine Kp.setCell ?_ (by first | (dsimp only; omega) | (simp; omega) | (simp; done) | (simp [size_ext_eq]; omega)) _))))
@[local go_sem] theorem ne_45 : ("MultiPoint".toByteArray.toList == "MultiLineString".toByteArray.toList) = false := by kernel_rfl
set_option maxRecDepth 100000 in
set_option maxHeartbeats 1000000 in
theorem diff_45 (x : Value) (y : Value) (w : World) : Calls Tryz.prog 24 #[.iface 63 x, .iface 65 y] w (Ret w (.bool false)) := by
  go_enter Tryz.func24, Tryz.ntmps24
  go_wp2_with (first | (go_at_call 94; (first | (with_reducible refine (Ret.at_ext (gt_MultiPoint _ _)).mono ?_) | (with_reducible refine (gt_MultiPoint _ _).mono ?_)); rintro e w' ⟨rfl, u, rfl⟩) | (go_at_call 98; (first | (with_reducible refine (Ret.at_ext (gt_MultiLineString _ _)).mono ?_) | (with_reducible refine (gt_MultiLineString _ _).mono ?_)); rintro e w' ⟨rfl, u, rfl⟩))
  exact bodyPost_ret (v := .bool false) (by simp [results, Tryz.results24, go_sem]) rfl (Ret.mk rfl (by repeat (first | (with_reducible exact Kp.refl _) | (with_reducible assumption) | (with_reducible apply Kp.ext) | (with_reducible apply Kp.alloc) | (with_reducible apply Kp.drew) | (with_reducible apply Kp.drewN) | (with_reducible refine Kp.setCell ?_ (by first | (dsimp only; omega) | (simp; omega) | (simp; done) | (simp [size_ext_eq]; omega)) _))))
@[local go_sem] theorem ne_46 : ("MultiPoint".toByteArray.toList == "MultiPolygon".toByteArray.toList) = false := by kernel_rfl
set_option maxRecDepth 100000 in
set_option maxHeartbeats 1000000 in
theorem diff_46 (x : Value) (y : Value) (w : World) : Calls Tryz.prog 24 #[.iface 63 x, .iface 67 y] w (Ret w (.bool false)) := by
  go_enter Tryz.func24, Tryz.ntmps24
  go_wp2_with (first | (go_at_call 94; (first | (with_reducible refine (Ret.at_ext (gt_MultiPoint _ _)).mono ?_) | (with_reducible refine (gt_MultiPoint _ _).mono ?_)); rintro e w' ⟨rfl, u, rfl⟩) | (go_at_call 109; (first | (with_reducible refine (Ret.at_ext (gt_MultiPolygon _ _)).mono ?_) | (with_reducible refine (gt_MultiPolygon _ _).mono ?_)); rintro e w' ⟨rfl, u, rfl⟩))
  exact bodyPost_ret (v := .bool false) (by simp [results, Tryz.results24, go_sem]) rfl (Ret.mk rfl (by repeat (first | (with_reducible exact Kp.refl _) | (with_reducible assumption) | (with_reducible apply Kp.ext) | (with_reducible apply Kp.alloc) | (with_reducible apply Kp.drew) | (with_reducible apply Kp.drewN) | (with_reducible refine Kp.setCell ?_ (by first | (dsimp only; omega) | (simp; omega) | (simp; done) | (simp [size_ext_eq]; omega)) _))))
@[local go_sem] theorem ne_47 : ("MultiPoint".toByteArray.toList == "GeometryCollection".toByteArray.toList) = false := by kernel_rfl
set_option maxRecDepth 100000 in
set_option maxHeartbeats 1000000 in
theorem diff_47 (x : Value) (y : Value) (w : World) : Calls Tryz.prog 24 #[.iface 63 x, .iface 69 y] w (Ret w (.bool false)) := by
  go_enter Tryz.func24, Tryz.ntmps24
  go_wp2_with (first | (go_at_call 94; (first | (with_reducible refine (Ret.at_ext (gt_MultiPoint _ _)).mono ?_) | (with_reducible refine (gt_MultiPoint _ _).mono ?_)); rintro e w' ⟨rfl, u, rfl⟩) | (go_at_call 113; (first | (with_reducible refine (Ret.at_ext (gt_Collection _ _)).mono ?_) | (with_reducible refine (gt_Collection _ _).mono ?_)); rintro e w' ⟨rfl, u, rfl⟩))
  exact bodyPost_ret (v := .bool false) (by simp [results, Tryz.results24, go_sem]) rfl (Ret.mk rfl (by repeat (first | (with_reducible exact Kp.refl _) | (with_reducible assumption) | (with_reducible apply Kp.ext) | (with_reducible apply Kp.alloc) | (with_reducible apply Kp.drew) | (with_reducible apply Kp.drewN) | (with_reducible refine Kp.setCell ?_ (by first | (dsimp only; omega) | (simp; omega) | (simp; done) | (simp [size_ext_eq]; omega)) _))))
@[local go_sem] theorem ne_51 : ("MultiLineString".toByteArray.toList == "Point".toByteArray.toList) = false := by kernel_rfl
set_option maxRecDepth 100000 in
set_option maxHeartbeats 1000000 in
theorem diff_51 (x : Value) (y y' : Nat) (w : World) : Calls Tryz.prog 24 #[.iface 65 x, .iface 51 (.agg #[.float .f64 y, .float .f64 y'])] w (Ret w (.bool false)) := by
  go_enter Tryz.func24, Tryz.ntmps24
  go_wp2_with (first | (go_at_call 98; (first | (with_reducible refine (Ret.at_ext (gt_MultiLineString _ _)).mono ?_) | (with_reducible refine (gt_MultiLineString _ _).mono ?_)); rintro e w' ⟨rfl, u, rfl⟩) | (go_at_call 63; (first | (with_reducible refine (Ret.at_ext (gt_Point _ _ _)).mono ?_) | (with_reducible refine (gt_Point _ _ _).mono ?_)); rintro e w' ⟨rfl, u, rfl⟩))
  exact bodyPost_ret (v := .bool false) (by simp [results, Tryz.results24, go_sem]) rfl (Ret.mk rfl (by repeat (first | (with_reducible exact Kp.refl _) | (with_reducible assumption) | (with_reducible apply Kp.ext) | (with_reducible apply Kp.alloc) | (with_reducible apply Kp.drew) | (with_reducible apply Kp.drewN) | (with_reducible refine Kp.setCell ?_ (by first | (dsimp only; omega) | (simp; omega) | (simp; done) | (simp [size_ext_eq]; omega)) _))))
@[local go_sem] theorem ne_52 : ("MultiLineString".toByteArray.toList == "LineString".toByteArray.toList) = false := by kernel_rfl
set_option maxRecDepth 100000 in
set_option maxHeartbeats 1000000 in
theorem diff_52 (x : Value) (y : Value) (w : World) : Calls Tryz.prog 24 #[.iface 65 x, .iface 59 y] w (Ret w (.bool false)) := by
  go_enter Tryz.func24, Tryz.ntmps24
  go_wp2_with (first | (go_at_call 98; (first | (with_reducible refine (Ret.at_ext (gt_MultiLineString _ _)).mono ?_) | (with_reducible refine (gt_MultiLineString _ _).mono ?_)); rintro e w' ⟨rfl, u, rfl⟩) | (go_at_call 71; (first | (with_reducible refine (Ret.at_ext (gt_LineString _ _)).mono ?_) | (with_reducible refine (gt_LineString _ _).mono ?_)); rintro e w' ⟨rfl, u, rfl⟩))
  exact bodyPost_ret (v := .bool false) (by simp [results, Tryz.results24, go_sem]) rfl (Ret.mk rfl (by repeat (first | (with_reducible exact Kp.refl _) | (with_reducible assumption) | (with_reducible apply Kp.ext) | (with_reducible apply Kp.alloc) | (with_reducible apply Kp.drew) | (with_reducible apply Kp.drewN) | (with_reducible refine Kp.setCell ?_ (by first | (dsimp only; omega) | (simp; omega) | (simp; done) | (simp [size_ext_eq]; omega)) _))))
@[local go_sem] theorem ne_53 : ("MultiLineString".toByteArray.toList == "Polygon".toByteArray.toList) = false := by kernel_rfl
set_option maxRecDepth 100000 in
set_option maxHeartbeats 1000000 in
theorem diff_53 (x : Value) (y : Value) (w : World) : Calls Tryz.prog 24 #[.iface 65 x, .iface 61 y] w (Ret w (.bool false)) := by
  go_enter Tryz.func24, Tryz.ntmps24
  go_wp2_with (first | (go_at_call 98; (first | (with_reducible refine (Ret.at_ext (gt_MultiLineString _ _)).mono ?_) | (with_reducible refine (gt_MultiLineString _ _).mono ?_)); rintro e w' ⟨rfl, u, rfl⟩) | (go_at_call 90; (first | (with_reducible refine (Ret.at_ext (gt_Polygon _ _)).mono ?_) | (with_reducible refine (gt_Polygon _ _).mono ?_)); rintro e w' ⟨rfl, u, rfl⟩))
  exact bodyPost_ret (v := .bool false) (by simp [results, Tryz.results24, go_sem]) rfl (Ret.mk rfl (by repeat (first | (with_reducible exact Kp.refl _) | (with_reducible assumption) | (with_reducible apply Kp.ext) | (with_reducible apply Kp.alloc) | (with_reducible apply Kp.drew) | (with_reducible apply Kp.drewN) | (with_reducible refine Kp.setCell ?_ (by first | (dsimp only; omega) | (simp; omega) | (simp; done) | (simp [size_ext_eq]; omega)) _))))
@[local go_sem] theorem ne_54 : ("MultiLineString".toByteArray.toList == "MultiPoint".toByteArray.toList) = false := by kernel_rfl
set_option maxRecDepth 100000 in
set_option maxHeartbeats 1000000 in
theorem diff_54 (x : Value) (y : Value) (w : World) : Calls Tryz.prog 24 #[.iface 65 x, .iface 63 y] w (Ret w (.bool false)) := by
  go_enter Tryz.func24, Tryz.ntmps24
  go_wp2_with (first | (go_at_call 98; (first | (with_reducible refine (Ret.at_ext (gt_MultiLineString _ _)).mono ?_) | (with_reducible refine (gt_MultiLineString _ _).mono ?_)); rintro e w' ⟨rfl, u, rfl⟩) | (go_at_call 94; (first | (with_reducible refine (Ret.at_ext (gt_MultiPoint _ _)).mono ?_) | (with_reducible refine (gt_MultiPoint _ _).mono ?_)); rintro e w' ⟨rfl, u, rfl⟩))
  exact bodyPost_ret (v := .bool false) (by simp [results, Tryz.results24, go_sem]) rfl (Ret.mk rfl (by repeat (first | (with_reducible exact Kp.refl _) | (with_reducible assumption) | (with_reducible apply Kp.ext) | (with_reducible apply Kp.alloc) | (with_reducible apply Kp.drew) | (with_reducible apply Kp.drewN) | (with_reducible refine Kp.setCell ?_ (by first | (dsimp only; omega) | (simp; omega) | (simp; done) | (simp [size_ext_eq]; omega)) _))))
@[local go_sem] theorem ne_56 : ("MultiLineString".toByteArray.toList == "MultiPolygon".toByteArray.toList) = false := by kernel_rfl
set_option maxRecDepth 100000 in
set_option maxHeartbeats 1000000 in
theorem diff_56 (x : Value) (y : Value) (w : World) : Calls Tryz.prog 24 #[.iface 65 x, .iface 67 y] w (Ret w (.bool false)) := by
  go_enter Tryz.func24, Tryz.ntmps24
  go_wp2_with (first | (go_at_call 98; (first | (with_reducible refine (Ret.at_ext (gt_MultiLineString _ _)).mono ?_) | (with_reducible refine (gt_MultiLineString _ _).mono ?_)); rintro e w' ⟨rfl, u, rfl⟩) | (go_at_call 109; (first | (with_reducible refine (Ret.at_ext (gt_MultiPolygon _ _)).mono ?_) | (with_reducible refine (gt_MultiPolygon _ _).mono ?_)); rintro e w' ⟨rfl, u, rfl⟩))
  exact bodyPost_ret (v := .bool false) (by simp [results, Tryz.results24, go_sem]) rfl (Ret.mk rfl (by repeat (first | (with_reducible exact Kp.refl _) | (with_reducible assumption) | (with_reducible apply Kp.ext) | (with_reducible apply Kp.alloc) | (with_reducible apply Kp.drew) | (with_reducible apply Kp.drewN) | (with_reducible refine Kp.setCell ?_ (by first | (dsimp only; omega) | (simp; omega) | (simp; done) | (simp [size_ext_eq]; omega)) _))))
@[local go_sem] theorem ne_57 : ("MultiLineString".toByteArray.toList == "GeometryCollection".toByteArray.toList) = false := by kernel_rfl
set_option maxRecDepth 100000 in
set_option maxHeartbeats 1000000 in
theorem diff_57 (x : Value) (y : Value) (w : World) : Calls Tryz.prog 24 #[.iface 65 x, .iface 69 y] w (Ret w (.bool false)) := by
  go_enter Tryz.func24, Tryz.ntmps24
  go_wp2_with (first | (go_at_call 98; (first | (with_reducible refine (Ret.at_ext (gt_MultiLineString _ _)).mono ?_) | (with_reducible refine (gt_MultiLineString _ _).mono ?_)); rintro e w' ⟨rfl, u, rfl⟩) | (go_at_call 113; (first | (with_reducible refine (Ret.at_ext (gt_Collection _ _)).mono ?_) | (with_reducible refine (gt_Collection _ _).mono ?_)); rintro e w' ⟨rfl, u, rfl⟩))
  exact bodyPost_ret (v := .bool false) (by simp [results, Tryz.results24, go_sem]) rfl (Ret.mk rfl (by repeat (first | (with_reducible exact Kp.refl _) | (with_reducible assumption) | (with_reducible apply Kp.ext) | (with_reducible apply Kp.alloc) | (with_reducible apply Kp.drew) | (with_reducible apply Kp.drewN) | (with_reducible refine Kp.setCell ?_ (by first | (dsimp only; omega) | (simp; omega) | (simp; done) | (simp [size_ext_eq]; omega)) _))))
@[local go_sem] theorem ne_61 : ("MultiPolygon".toByteArray.toList == "Point".toByteArray.toList) = false := by kernel_rfl
set_option maxRecDepth 100000 in
set_option maxHeartbeats 1000000 in
theorem diff_61 (x : Value) (y y' : Nat) (w : World) : Calls Tryz.prog 24 #[.iface 67 x, .iface 51 (.agg #[.float .f64 y, .float .f64 y'])] w (Ret w (.bool false)) := by
  go_enter Tryz.func24, Tryz.ntmps24
  go_wp2_with (first | (go_at_call 109; (first | (with_reducible refine (Ret.at_ext (gt_MultiPolygon _ _)).mono ?_) | (with_reducible refine (gt_MultiPolygon _ _).mono ?_)); rintro e w' ⟨rfl, u, rfl⟩) | (go_at_call 63; (first | (with_reducible refine (Ret.at_ext (gt_Point _ _ _)).mono ?_) | (with_reducible refine (gt_Point _ _ _).mono ?_)); rintro e w' ⟨rfl, u, rfl⟩))
  exact bodyPost_ret (v := .bool false) (by simp [results, Tryz.results24, go_sem]) rfl (Ret.mk rfl (by repeat (first | (with_reducible exact Kp.refl _) | (with_reducible assumption) | (with_reducible apply Kp.ext) | (with_reducible apply Kp.alloc) | (with_reducible apply Kp.drew) | (with_reducible apply Kp.drewN) | (with_reducible refine Kp.setCell ?_ (by first | (dsimp only; omega) | (simp; omega) | (simp; done) | (simp [size_ext_eq]; omega)) _))))
@[local go_sem] theorem ne_62 : ("MultiPolygon".toByteArray.toList == "LineString".toByteArray.toList) = false := by kernel_rfl
set_option maxRecDepth 100000 in
set_option maxHeartbeats 1000000 in
theorem diff_62 (x : Value) (y : Value) (w : World) : Calls Tryz.prog 24 #[.iface 67 x, .iface 59 y] w (Ret w (.bool false)) := by
  go_enter Tryz.func24, Tryz.ntmps24
  go_wp2_with (first | (go_at_call 109; (first | (with_reducible refine (Ret.at_ext (gt_MultiPolygon _ _)).mono ?_) | (with_reducible refine (gt_MultiPolygon _ _).mono ?_)); rintro e w' ⟨rfl, u, rfl⟩) | (go_at_call 71; (first | (with_reducible refine (Ret.at_ext (gt_LineString _ _)).mono ?_) | (with_reducible refine (gt_LineString _ _).mono ?_)); rintro e w' ⟨rfl, u, rfl⟩))
  exact bodyPost_ret (v := .bool false) (by simp [results, Tryz.results24, go_sem]) rfl (Ret.mk rfl (by repeat (first | (with_reducible exact Kp.refl _) | (with_reducible assumption) | (with_reducible apply Kp.ext) | (with_reducible apply Kp.alloc) | (with_reducible apply Kp.drew) | (with_reducible apply Kp.drewN) | (with_reducible refine Kp.setCell ?_ (by first | (dsimp only; omega) | (simp; omega) | (simp; done) | (simp [size_ext_eq]; omega)) _))))
@[local go_sem] theorem ne_63 : ("MultiPolygon".toByteArray.toList == "Polygon".toByteArray.toList) = false := by kernel_rfl
set_option maxRecDepth 100000 in
set_option maxHeartbeats 1000000 in
theorem diff_63 (x : Value) (y : Value) (w : World) : Calls Tryz.prog 24 #[.iface 67 x, .iface 61 y] w (Ret w (.bool false)) := by
  go_enter Tryz.func24, Tryz.ntmps24
  go_wp2_with (first | (go_at_call 109; (first | (with_reducible refine (Ret.at_ext (gt_MultiPolygon _ _)).mono ?_) | (with_reducible refine (gt_MultiPolygon _ _).mono ?_)); rintro e w' ⟨rfl, u, rfl⟩) | (go_at_call 90; (first | (with_reducible refine (Ret.at_ext (gt_Polygon _ _)).mono ?_) | (with_reducible refine (gt_Polygon _ _).mono ?_)); rintro e w' ⟨rfl, u, rfl⟩))
  exact bodyPost_ret (v := .bool false) (by simp [results, Tryz.results24, go_sem]) rfl (Ret.mk rfl (by repeat (first | (with_reducible exact Kp.refl _) | (with_reducible assumption) | (with_reducible apply Kp.ext) | (with_reducible apply Kp.alloc) | (with_reducible apply Kp.drew) | (with_reducible apply Kp.drewN) | (with_reducible refine Kp.setCell ?_ (by first | (dsimp only; omega) | (simp; omega) | (simp; done) | (simp [size_ext_eq]; omega)) _))))
@[local go_sem] theorem ne_64 : ("MultiPolygon".toByteArray.toList == "MultiPoint".toByteArray.toList) = false := by kernel_rfl
set_option maxRecDepth 100000 in
set_option maxHeartbeats 1000000 in
theorem diff_64 (x : Value) (y : Value) (w : World) : Calls Tryz.prog 24 #[.iface 67 x, .iface 63 y] w (Ret w (.bool false)) := by
  go_enter Tryz.func24, Tryz.ntmps24
  go_wp2_with (first | (go_at_call 109; (first | (with_reducible refine (Ret.at_ext (gt_MultiPolygon _ _)).mono ?_) | (with_reducible refine (gt_MultiPolygon _ _).mono ?_)); rintro e w' ⟨rfl, u, rfl⟩) | (go_at_call 94; (first | (with_reducible refine (Ret.at_ext (gt_MultiPoint _ _)).mono ?_) | (with_reducible refine (gt_MultiPoint _ _).mono ?_)); rintro e w' ⟨rfl, u, rfl⟩))
  exact bodyPost_ret (v := .bool false) (by simp [results, Tryz.results24, go_sem]) rfl (Ret.mk rfl (by repeat (first | (with_reducible exact Kp.refl _) | (with_reducible assumption) | (with_reducible apply Kp.ext) | (with_reducible apply Kp.alloc) | (with_reducible apply Kp.drew) | (with_reducible apply Kp.drewN) | (with_reducible refine Kp.setCell ?_ (by first | (dsimp only; omega) | (simp; omega) | (simp; done) | (simp [size_ext_eq]; omega)) _))))
@[local go_sem] theorem ne_65 : ("MultiPolygon".toByteArray.toList == "MultiLineString".toByteArray.toList) = false := by kernel_rfl
set_option maxRecDepth 100000 in
set_option maxHeartbeats 1000000 in
theorem diff_65 (x : Value) (y : Value) (w : World) : Calls Tryz.prog 24 #[.iface 67 x, .iface 65 y] w (Ret w (.bool false)) := by
  go_enter Tryz.func24, Tryz.ntmps24
  go_wp2_with (first | (go_at_call 109; (first | (with_reducible refine (Ret.at_ext (gt_MultiPolygon _ _)).mono ?_) | (with_reducible refine (gt_MultiPolygon _ _).mono ?_)); rintro e w' ⟨rfl, u, rfl⟩) | (go_at_call 98; (first | (with_reducible refine (Ret.at_ext (gt_MultiLineString _ _)).mono ?_) | (with_reducible refine (gt_MultiLineString _ _).mono ?_)); rintro e w' ⟨rfl, u, rfl⟩))
  exact bodyPost_ret (v := .bool false) (by simp [results, Tryz.results24, go_sem]) rfl (Ret.mk rfl (by repeat (first | (with_reducible exact Kp.refl _) | (with_reducible assumption) | (with_reducible apply Kp.ext) | (with_reducible apply Kp.alloc) | (with_reducible apply Kp.drew) | (with_reducible apply Kp.drewN) | (with_reducible refine Kp.setCell ?_ (by first | (dsimp only; omega) | (simp; omega) | (simp; done) | (simp [size_ext_eq]; omega)) _))))
@[local go_sem] theorem ne_67 : ("MultiPolygon".toByteArray.toList == "GeometryCollection".toByteArray.toList) = false := by kernel_rfl
set_option maxRecDepth 100000 in
set_option maxHeartbeats 1000000 in
theorem diff_67 (x : Value) (y : Value) (w : World) : Calls Tryz.prog 24 #[.iface 67 x, .iface 69 y] w (Ret w (.bool false)) := by
  go_enter Tryz.func24, Tryz.ntmps24
  go_wp2_with (first | (go_at_call 109; (first | (with_reducible refine (Ret.at_ext (gt_MultiPolygon _ _)).mono ?_) | (with_reducible refine (gt_MultiPolygon _ _).mono ?_)); rintro e w' ⟨rfl, u, rfl⟩) | (go_at_call 113; (first | (with_reducible refine (Ret.at_ext (gt_Collection _ _)).mono ?_) | (with_reducible refine (gt_Collection _ _).mono ?_)); rintro e w' ⟨rfl, u, rfl⟩))
  exact bodyPost_ret (v := .bool false) (by simp [results, Tryz.results24, go_sem]) rfl (Ret.mk rfl (by repeat (first | (with_reducible exact Kp.refl _) | (with_reducible assumption) | (with_reducible apply Kp.ext) | (with_reducible apply Kp.alloc) | (with_reducible apply Kp.drew) | (with_reducible apply Kp.drewN) | (with_reducible refine Kp.setCell ?_ (by first | (dsimp only; omega) | (simp; omega) | (simp; done) | (simp [size_ext_eq]; omega)) _))))
@[local go_sem] theorem ne_71 : ("GeometryCollection".toByteArray.toList == "Point".toByteArray.toList) = false := by kernel_rfl
set_option maxRecDepth 100000 in
set_option maxHeartbeats 1000000 in
theorem diff_71 (x : Value) (y y' : Nat) (w : World) : Calls Tryz.prog 24 #[.iface 69 x, .iface 51 (.agg #[.float .f64 y, .float .f64 y'])] w (Ret w (.bool false)) := by
  go_enter Tryz.func24, Tryz.ntmps24
  go_wp2_with (first | (go_at_call 113; (first | (with_reducible refine (Ret.at_ext (gt_Collection _ _)).mono ?_) | (with_reducible refine (gt_Collection _ _).mono ?_)); rintro e w' ⟨rfl, u, rfl⟩) | (go_at_call 63; (first | (with_reducible refine (Ret.at_ext (gt_Point _ _ _)).mono ?_) | (with_reducible refine (gt_Point _ _ _).mono ?_)); rintro e w' ⟨rfl, u, rfl⟩))
  exact bodyPost_ret (v := .bool false) (by simp [results, Tryz.results24, go_sem]) rfl (Ret.mk rfl (by repeat (first | (with_reducible exact Kp.refl _) | (with_reducible assumption) | (with_reducible apply Kp.ext) | (with_reducible apply Kp.alloc) | (with_reducible apply Kp.drew) | (with_reducible apply Kp.drewN) | (with_reducible refine Kp.setCell ?_ (by first | (dsimp only; omega) | (simp; omega) | (simp; done) | (simp [size_ext_eq]; omega)) _))))
@[local go_sem] theorem ne_72 : ("GeometryCollection".toByteArray.toList == "LineString".toByteArray.toList) = false := by kernel_rfl
set_option maxRecDepth 100000 in
set_option maxHeartbeats 1000000 in
theorem diff_72 (x : Value) (y : Value) (w : World) : Calls Tryz.prog 24 #[.iface 69 x, .iface 59 y] w (Ret w (.bool false)) := by
  go_enter Tryz.func24, Tryz.ntmps24
  go_wp2_with (first | (go_at_call 113; (first | (with_reducible refine (Ret.at_ext (gt_Collection _ _)).mono ?_) | (with_reducible refine (gt_Collection _ _).mono ?_)); rintro e w' ⟨rfl, u, rfl⟩) | (go_at_call 71; (first | (with_reducible refine (Ret.at_ext (gt_LineString _ _)).mono ?_) | (with_reducible refine (gt_LineString _ _).mono ?_)); rintro e w' ⟨rfl, u, rfl⟩))
  exact bodyPost_ret (v := .bool false) (by simp [results, Tryz.results24, go_sem]) rfl (Ret.mk rfl (by repeat (first | (with_reducible exact Kp.refl _) | (with_reducible assumption) | (with_reducible apply Kp.ext) | (with_reducible apply Kp.alloc) | (with_reducible apply Kp.drew) | (with_reducible apply Kp.drewN) | (with_reducible refine Kp.setCell ?_ (by first | (dsimp only; omega) | (simp; omega) | (simp; done) | (simp [size_ext_eq]; omega)) _))))
@[local go_sem] theorem ne_73 : ("GeometryCollection".toByteArray.toList == "Polygon".toByteArray.toList) = false := by kernel_rfl
set_option maxRecDepth 100000 in
set_option maxHeartbeats 1000000 in
theorem diff_73 (x : Value) (y : Value) (w : World) : Calls Tryz.prog 24 #[.iface 69 x, .iface 61 y] w (Ret w (.bool false)) := by
  go_enter Tryz.func24, Tryz.ntmps24
  go_wp2_with (first | (go_at_call 113; (first | (with_reducible refine (Ret.at_ext (gt_Collection _ _)).mono ?_) | (with_reducible refine (gt_Collection _ _).mono ?_)); rintro e w' ⟨rfl, u, rfl⟩) | (go_at_call 90; (first | (with_reducible refine (Ret.at_ext (gt_Polygon _ _)).mono ?_) | (with_reducible refine (gt_Polygon _ _).mono ?_)); rintro e w' ⟨rfl, u, rfl⟩))
  exact bodyPost_ret (v := .bool false) (by simp [results, Tryz.results24, go_sem]) rfl (Ret.mk rfl (by repeat (first | (with_reducible exact Kp.refl _) | (with_reducible assumption) | (with_reducible apply Kp.ext) | (with_reducible apply Kp.alloc) | (with_reducible apply Kp.drew) | (with_reducible apply Kp.drewN) | (with_reducible refine Kp.setCell ?_ (by first | (dsimp only; omega) | (simp; omega) | (simp; done) | (simp [size_ext_eq]; omega)) _))))
@[local go_sem] theorem ne_74 : ("GeometryCollection".toByteArray.toList == "MultiPoint".toByteArray.toList) = false := by kernel_rfl
set_option maxRecDepth 100000 in
set_option maxHeartbeats 1000000 in
theorem diff_74 (x : Value) (y : Value) (w : World) : Calls Tryz.prog 24 #[.iface 69 x, .iface 63 y] w (Ret w (.bool false)) := by
  go_enter Tryz.func24, Tryz.ntmps24
  go_wp2_with (first | (go_at_call 113; (first | (with_reducible refine (Ret.at_ext (gt_Collection _ _)).mono ?_) | (with_reducible refine (gt_Collection _ _).mono ?_)); rintro e w' ⟨rfl, u, rfl⟩) | (go_at_call 94; (first | (with_reducible refine (Ret.at_ext (gt_MultiPoint _ _)).mono ?_) | (with_reducible refine (gt_MultiPoint _ _).mono ?_)); rintro e w' ⟨rfl, u, rfl⟩))
  exact bodyPost_ret (v := .bool false) (by simp [results, Tryz.results24, go_sem]) rfl (Ret.mk rfl (by repeat (first | (with_reducible exact Kp.refl _) | (with_reducible assumption) | (with_reducible apply Kp.ext) | (with_reducible apply Kp.alloc) | (with_reducible apply Kp.drew) | (with_reducible apply Kp.drewN) | (with_reducible refine Kp.setCell ?_ (by first | (dsimp only; omega) | (simp; omega) | (simp; done) | (simp [size_ext_eq]; omega)) _))))
@[local go_sem] theorem ne_75 : ("GeometryCollection".toByteArray.toList == "MultiLineString".toByteArray.toList) = false := by kernel_rfl
set_option maxRecDepth 100000 in
set_option maxHeartbeats 1000000 in
theorem diff_75 (x : Value) (y : Value) (w : World) : Calls Tryz.prog 24 #[.iface 69 x, .iface 65 y] w (Ret w (.bool false)) := by
  go_enter Tryz.func24, Tryz.ntmps24
  go_wp2_with (first | (go_at_call 113; (first | (with_reducible refine (Ret.at_ext (gt_Collection _ _)).mono ?_) | (with_reducible refine (gt_Collection _ _).mono ?_)); rintro e w' ⟨rfl, u, rfl⟩) | (go_at_call 98; (first | (with_reducible refine (Ret.at_ext (gt_MultiLineString _ _)).mono ?_) | (with_reducible refine (gt_MultiLineString _ _).mono ?_)); rintro e w' ⟨rfl, u, rfl⟩))
  exact bodyPost_ret (v := .bool false) (by simp [results, Tryz.results24, go_sem]) rfl (Ret.mk rfl (by repeat (first | (with_reducible exact Kp.refl _) | (with_reducible assumption) | (with_reducible apply Kp.ext) | (with_reducible apply Kp.alloc) | (with_reducible apply Kp.drew) | (with_reducible apply Kp.drewN) | (with_reducible refine Kp.setCell ?_ (by first | (dsimp only; omega) | (simp; omega) | (simp; done) | (simp [size_ext_eq]; omega)) _))))
@[local go_sem] theorem ne_76 : ("GeometryCollection".toByteArray.toList == "MultiPolygon".toByteArray.toList) = false := by kernel_rfl
set_option maxRecDepth 100000 in
set_option maxHeartbeats 1000000 in
theorem diff_76 (x : Value) (y : Value) (w : World) : Calls Tryz.prog 24 #[.iface 69 x, .iface 67 y] w (Ret w (.bool false)) := by
  go_enter Tryz.func24, Tryz.ntmps24
  go_wp2_with (first | (go_at_call 113; (first | (with_reducible refine (Ret.at_ext (gt_Collection _ _)).mono ?_) | (with_reducible refine (gt_Collection _ _).mono ?_)); rintro e w' ⟨rfl, u, rfl⟩) | (go_at_call 109; (first | (with_reducible refine (Ret.at_ext (gt_MultiPolygon _ _)).mono ?_) | (with_reducible refine (gt_MultiPolygon _ _).mono ?_)); rintro e w' ⟨rfl, u, rfl⟩))
  exact bodyPost_ret (v := .bool false) (by simp [results, Tryz.results24, go_sem]) rfl (Ret.mk rfl (by repeat (first | (with_reducible exact Kp.refl _) | (with_reducible assumption) | (with_reducible apply Kp.ext) | (with_reducible apply Kp.alloc) | (with_reducible apply Kp.drew) | (with_reducible apply Kp.drewN) | (with_reducible refine Kp.setCell ?_ (by first | (dsimp only; omega) | (simp; omega) | (simp; done) | (simp [size_ext_eq]; omega)) _))))
end Go.Proofs.YtohidpmkoehmcaaGreat
