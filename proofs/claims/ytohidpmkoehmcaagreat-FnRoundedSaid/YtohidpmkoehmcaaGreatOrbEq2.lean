/-
  orb.Equal of two geometries.
-/
import Derived.Test.YtohidpmkoehmcaaGreatOrbEq
namespace Go.Proofs.YtohidpmkoehmcaaGreat
open PubFl Go.RowKit

attribute [local go_sem] cell_ext frozen_ext ext_setCell cell_store size_ext_eq lt_p0 lt_p1 lt_p2 lt_p3 lt_p4 lt_p5 lt_p6 lt_p7 lt_p8 lt_p9 lt_p10 lt_p11 lt_p12 lt_p13 lt_p14 lt_p15 lt_p16 lt_p17 lt_p18 lt_p19 lt_p20 lt_p21 lt_p22 lt_p23 lt_p24 lt_p25 lt_p26 lt_p27 lt_p28 lt_p29 lt_p30 lt_p31 lt_p32 lt_q1 lt_q2 lt_q3 lt_q4 lt_q5 lt_q6 lt_q7 lt_q8 lt_q9 lt_q10 lt_q11 lt_q12 lt_q13 lt_q14 lt_q15 lt_q16 lt_q17 lt_q18 lt_q19 lt_q20 lt_q21 lt_q22 lt_q23 lt_q24 lt_q25 lt_q26 lt_q27 lt_q28 lt_q29 lt_q30 lt_q31 lt_q32 run_fop run_store_float
attribute [local go_sem high] cmp_eql cmp_neq cmp_lss cmp_leq cmp_gtr cmp_geq

theorem tas_Point_Point (x y : Nat) (w : World) : (Instr.typeAssert (.iface 51 (.agg #[.float .f64 x, .float .f64 y])) 43 51 true).run Tryz.prog w = .ok (.tuple #[.agg #[.float .f64 x, .float .f64 y], .bool true]) w := by kernel_rfl
theorem tas_Point_MultiPoint (x y : Nat) (w : World) : (Instr.typeAssert (.iface 51 (.agg #[.float .f64 x, .float .f64 y])) 43 63 true).run Tryz.prog w = .ok (.tuple #[.slice none 0 0, .bool false]) w := by kernel_rfl
theorem tas_Point_LineString (x y : Nat) (w : World) : (Instr.typeAssert (.iface 51 (.agg #[.float .f64 x, .float .f64 y])) 43 59 true).run Tryz.prog w = .ok (.tuple #[.slice none 0 0, .bool false]) w := by kernel_rfl
theorem tas_Point_MultiLineString (x y : Nat) (w : World) : (Instr.typeAssert (.iface 51 (.agg #[.float .f64 x, .float .f64 y])) 43 65 true).run Tryz.prog w = .ok (.tuple #[.slice none 0 0, .bool false]) w := by kernel_rfl
theorem tas_Point_Ring (x y : Nat) (w : World) : (Instr.typeAssert (.iface 51 (.agg #[.float .f64 x, .float .f64 y])) 43 74 true).run Tryz.prog w = .ok (.tuple #[.slice none 0 0, .bool false]) w := by kernel_rfl
theorem tas_Point_Polygon (x y : Nat) (w : World) : (Instr.typeAssert (.iface 51 (.agg #[.float .f64 x, .float .f64 y])) 43 61 true).run Tryz.prog w = .ok (.tuple #[.slice none 0 0, .bool false]) w := by kernel_rfl
theorem tas_Point_MultiPolygon (x y : Nat) (w : World) : (Instr.typeAssert (.iface 51 (.agg #[.float .f64 x, .float .f64 y])) 43 67 true).run Tryz.prog w = .ok (.tuple #[.slice none 0 0, .bool false]) w := by kernel_rfl
theorem tas_Point_Collection (x y : Nat) (w : World) : (Instr.typeAssert (.iface 51 (.agg #[.float .f64 x, .float .f64 y])) 43 69 true).run Tryz.prog w = .ok (.tuple #[.slice none 0 0, .bool false]) w := by kernel_rfl
theorem tas1_Point (x y : Nat) (w : World) : (Instr.typeAssert (.iface 51 (.agg #[.float .f64 x, .float .f64 y])) 43 51 false).run Tryz.prog w = .ok (.agg #[.float .f64 x, .float .f64 y]) w := by kernel_rfl
theorem tas_LineString_Point (v : Value) (w : World) : (Instr.typeAssert (.iface 59 v) 43 51 true).run Tryz.prog w = .ok (.tuple #[.agg #[.float .f64 0, .float .f64 0], .bool false]) w := by kernel_rfl
theorem tas_LineString_MultiPoint (v : Value) (w : World) : (Instr.typeAssert (.iface 59 v) 43 63 true).run Tryz.prog w = .ok (.tuple #[.slice none 0 0, .bool false]) w := by kernel_rfl
theorem tas_LineString_LineString (v : Value) (w : World) : (Instr.typeAssert (.iface 59 v) 43 59 true).run Tryz.prog w = .ok (.tuple #[v, .bool true]) w := by kernel_rfl
theorem tas_LineString_MultiLineString (v : Value) (w : World) : (Instr.typeAssert (.iface 59 v) 43 65 true).run Tryz.prog w = .ok (.tuple #[.slice none 0 0, .bool false]) w := by kernel_rfl
theorem tas_LineString_Ring (v : Value) (w : World) : (Instr.typeAssert (.iface 59 v) 43 74 true).run Tryz.prog w = .ok (.tuple #[.slice none 0 0, .bool false]) w := by kernel_rfl
theorem tas_LineString_Polygon (v : Value) (w : World) : (Instr.typeAssert (.iface 59 v) 43 61 true).run Tryz.prog w = .ok (.tuple #[.slice none 0 0, .bool false]) w := by kernel_rfl
theorem tas_LineString_MultiPolygon (v : Value) (w : World) : (Instr.typeAssert (.iface 59 v) 43 67 true).run Tryz.prog w = .ok (.tuple #[.slice none 0 0, .bool false]) w := by kernel_rfl
theorem tas_LineString_Collection (v : Value) (w : World) : (Instr.typeAssert (.iface 59 v) 43 69 true).run Tryz.prog w = .ok (.tuple #[.slice none 0 0, .bool false]) w := by kernel_rfl
theorem tas1_LineString (v : Value) (w : World) : (Instr.typeAssert (.iface 59 v) 43 59 false).run Tryz.prog w = .ok v w := by kernel_rfl
theorem tas_Polygon_Point (v : Value) (w : World) : (Instr.typeAssert (.iface 61 v) 43 51 true).run Tryz.prog w = .ok (.tuple #[.agg #[.float .f64 0, .float .f64 0], .bool false]) w := by kernel_rfl
theorem tas_Polygon_MultiPoint (v : Value) (w : World) : (Instr.typeAssert (.iface 61 v) 43 63 true).run Tryz.prog w = .ok (.tuple #[.slice none 0 0, .bool false]) w := by kernel_rfl
theorem tas_Polygon_LineString (v : Value) (w : World) : (Instr.typeAssert (.iface 61 v) 43 59 true).run Tryz.prog w = .ok (.tuple #[.slice none 0 0, .bool false]) w := by kernel_rfl
theorem tas_Polygon_MultiLineString (v : Value) (w : World) : (Instr.typeAssert (.iface 61 v) 43 65 true).run Tryz.prog w = .ok (.tuple #[.slice none 0 0, .bool false]) w := by kernel_rfl
theorem tas_Polygon_Ring (v : Value) (w : World) : (Instr.typeAssert (.iface 61 v) 43 74 true).run Tryz.prog w = .ok (.tuple #[.slice none 0 0, .bool false]) w := by kernel_rfl
theorem tas_Polygon_Polygon (v : Value) (w : World) : (Instr.typeAssert (.iface 61 v) 43 61 true).run Tryz.prog w = .ok (.tuple #[v, .bool true]) w := by kernel_rfl
theorem tas_Polygon_MultiPolygon (v : Value) (w : World) : (Instr.typeAssert (.iface 61 v) 43 67 true).run Tryz.prog w = .ok (.tuple #[.slice none 0 0, .bool false]) w := by kernel_rfl
theorem tas_Polygon_Collection (v : Value) (w : World) : (Instr.typeAssert (.iface 61 v) 43 69 true).run Tryz.prog w = .ok (.tuple #[.slice none 0 0, .bool false]) w := by kernel_rfl
theorem tas1_Polygon (v : Value) (w : World) : (Instr.typeAssert (.iface 61 v) 43 61 false).run Tryz.prog w = .ok v w := by kernel_rfl
theorem tas_MultiPoint_Point (v : Value) (w : World) : (Instr.typeAssert (.iface 63 v) 43 51 true).run Tryz.prog w = .ok (.tuple #[.agg #[.float .f64 0, .float .f64 0], .bool false]) w := by kernel_rfl
theorem tas_MultiPoint_MultiPoint (v : Value) (w : World) : (Instr.typeAssert (.iface 63 v) 43 63 true).run Tryz.prog w = .ok (.tuple #[v, .bool true]) w := by kernel_rfl
theorem tas_MultiPoint_LineString (v : Value) (w : World) : (Instr.typeAssert (.iface 63 v) 43 59 true).run Tryz.prog w = .ok (.tuple #[.slice none 0 0, .bool false]) w := by kernel_rfl
theorem tas_MultiPoint_MultiLineString (v : Value) (w : World) : (Instr.typeAssert (.iface 63 v) 43 65 true).run Tryz.prog w = .ok (.tuple #[.slice none 0 0, .bool false]) w := by kernel_rfl
theorem tas_MultiPoint_Ring (v : Value) (w : World) : (Instr.typeAssert (.iface 63 v) 43 74 true).run Tryz.prog w = .ok (.tuple #[.slice none 0 0, .bool false]) w := by kernel_rfl
theorem tas_MultiPoint_Polygon (v : Value) (w : World) : (Instr.typeAssert (.iface 63 v) 43 61 true).run Tryz.prog w = .ok (.tuple #[.slice none 0 0, .bool false]) w := by kernel_rfl
theorem tas_MultiPoint_MultiPolygon (v : Value) (w : World) : (Instr.typeAssert (.iface 63 v) 43 67 true).run Tryz.prog w = .ok (.tuple #[.slice none 0 0, .bool false]) w := by kernel_rfl
theorem tas_MultiPoint_Collection (v : Value) (w : World) : (Instr.typeAssert (.iface 63 v) 43 69 true).run Tryz.prog w = .ok (.tuple #[.slice none 0 0, .bool false]) w := by kernel_rfl
theorem tas1_MultiPoint (v : Value) (w : World) : (Instr.typeAssert (.iface 63 v) 43 63 false).run Tryz.prog w = .ok v w := by kernel_rfl
theorem tas_MultiLineString_Point (v : Value) (w : World) : (Instr.typeAssert (.iface 65 v) 43 51 true).run Tryz.prog w = .ok (.tuple #[.agg #[.float .f64 0, .float .f64 0], .bool false]) w := by kernel_rfl
theorem tas_MultiLineString_MultiPoint (v : Value) (w : World) : (Instr.typeAssert (.iface 65 v) 43 63 true).run Tryz.prog w = .ok (.tuple #[.slice none 0 0, .bool false]) w := by kernel_rfl
theorem tas_MultiLineString_LineString (v : Value) (w : World) : (Instr.typeAssert (.iface 65 v) 43 59 true).run Tryz.prog w = .ok (.tuple #[.slice none 0 0, .bool false]) w := by kernel_rfl
theorem tas_MultiLineString_MultiLineString (v : Value) (w : World) : (Instr.typeAssert (.iface 65 v) 43 65 true).run Tryz.prog w = .ok (.tuple #[v, .bool true]) w := by kernel_rfl
theorem tas_MultiLineString_Ring (v : Value) (w : World) : (Instr.typeAssert (.iface 65 v) 43 74 true).run Tryz.prog w = .ok (.tuple #[.slice none 0 0, .bool false]) w := by kernel_rfl
theorem tas_MultiLineString_Polygon (v : Value) (w : World) : (Instr.typeAssert (.iface 65 v) 43 61 true).run Tryz.prog w = .ok (.tuple #[.slice none 0 0, .bool false]) w := by kernel_rfl
theorem tas_MultiLineString_MultiPolygon (v : Value) (w : World) : (Instr.typeAssert (.iface 65 v) 43 67 true).run Tryz.prog w = .ok (.tuple #[.slice none 0 0, .bool false]) w := by kernel_rfl
theorem tas_MultiLineString_Collection (v : Value) (w : World) : (Instr.typeAssert (.iface 65 v) 43 69 true).run Tryz.prog w = .ok (.tuple #[.slice none 0 0, .bool false]) w := by kernel_rfl
theorem tas1_MultiLineString (v : Value) (w : World) : (Instr.typeAssert (.iface 65 v) 43 65 false).run Tryz.prog w = .ok v w := by kernel_rfl
theorem tas_MultiPolygon_Point (v : Value) (w : World) : (Instr.typeAssert (.iface 67 v) 43 51 true).run Tryz.prog w = .ok (.tuple #[.agg #[.float .f64 0, .float .f64 0], .bool false]) w := by kernel_rfl
theorem tas_MultiPolygon_MultiPoint (v : Value) (w : World) : (Instr.typeAssert (.iface 67 v) 43 63 true).run Tryz.prog w = .ok (.tuple #[.slice none 0 0, .bool false]) w := by kernel_rfl
theorem tas_MultiPolygon_LineString (v : Value) (w : World) : (Instr.typeAssert (.iface 67 v) 43 59 true).run Tryz.prog w = .ok (.tuple #[.slice none 0 0, .bool false]) w := by kernel_rfl
theorem tas_MultiPolygon_MultiLineString (v : Value) (w : World) : (Instr.typeAssert (.iface 67 v) 43 65 true).run Tryz.prog w = .ok (.tuple #[.slice none 0 0, .bool false]) w := by kernel_rfl
theorem tas_MultiPolygon_Ring (v : Value) (w : World) : (Instr.typeAssert (.iface 67 v) 43 74 true).run Tryz.prog w = .ok (.tuple #[.slice none 0 0, .bool false]) w := by kernel_rfl
theorem tas_MultiPolygon_Polygon (v : Value) (w : World) : (Instr.typeAssert (.iface 67 v) 43 61 true).run Tryz.prog w = .ok (.tuple #[.slice none 0 0, .bool false]) w := by kernel_rfl
theorem tas_MultiPolygon_MultiPolygon (v : Value) (w : World) : (Instr.typeAssert (.iface 67 v) 43 67 true).run Tryz.prog w = .ok (.tuple #[v, .bool true]) w := by kernel_rfl
theorem tas_MultiPolygon_Collection (v : Value) (w : World) : (Instr.typeAssert (.iface 67 v) 43 69 true).run Tryz.prog w = .ok (.tuple #[.slice none 0 0, .bool false]) w := by kernel_rfl
theorem tas1_MultiPolygon (v : Value) (w : World) : (Instr.typeAssert (.iface 67 v) 43 67 false).run Tryz.prog w = .ok v w := by kernel_rfl
theorem tas_Collection_Point (v : Value) (w : World) : (Instr.typeAssert (.iface 69 v) 43 51 true).run Tryz.prog w = .ok (.tuple #[.agg #[.float .f64 0, .float .f64 0], .bool false]) w := by kernel_rfl
theorem tas_Collection_MultiPoint (v : Value) (w : World) : (Instr.typeAssert (.iface 69 v) 43 63 true).run Tryz.prog w = .ok (.tuple #[.slice none 0 0, .bool false]) w := by kernel_rfl
theorem tas_Collection_LineString (v : Value) (w : World) : (Instr.typeAssert (.iface 69 v) 43 59 true).run Tryz.prog w = .ok (.tuple #[.slice none 0 0, .bool false]) w := by kernel_rfl
theorem tas_Collection_MultiLineString (v : Value) (w : World) : (Instr.typeAssert (.iface 69 v) 43 65 true).run Tryz.prog w = .ok (.tuple #[.slice none 0 0, .bool false]) w := by kernel_rfl
theorem tas_Collection_Ring (v : Value) (w : World) : (Instr.typeAssert (.iface 69 v) 43 74 true).run Tryz.prog w = .ok (.tuple #[.slice none 0 0, .bool false]) w := by kernel_rfl
theorem tas_Collection_Polygon (v : Value) (w : World) : (Instr.typeAssert (.iface 69 v) 43 61 true).run Tryz.prog w = .ok (.tuple #[.slice none 0 0, .bool false]) w := by kernel_rfl
theorem tas_Collection_MultiPolygon (v : Value) (w : World) : (Instr.typeAssert (.iface 69 v) 43 67 true).run Tryz.prog w = .ok (.tuple #[.slice none 0 0, .bool false]) w := by kernel_rfl
theorem tas_Collection_Collection (v : Value) (w : World) : (Instr.typeAssert (.iface 69 v) 43 69 true).run Tryz.prog w = .ok (.tuple #[v, .bool true]) w := by kernel_rfl
theorem tas1_Collection (v : Value) (w : World) : (Instr.typeAssert (.iface 69 v) 43 69 false).run Tryz.prog w = .ok v w := by kernel_rfl
@[go_sem] theorem meth_Point (x : Value) (w : World) : Sem.run Tryz.prog (method 215 51 x "GeoJSONType") w = .ok (63, x) w := by kernel_rfl
set_option maxHeartbeats 1000000 in
theorem gt_Point (x y : Nat) (w : World) : Calls Tryz.prog 63 #[.agg #[.float .f64 x, .float .f64 y]] w (Ret w (.string "Point".toByteArray)) := by
  go_enter Tryz.func63, Tryz.ntmps63
  go_wp2_with fail
  go_ret
  exact Ret.mk rfl (by repeat (first | (with_reducible exact Kp.refl _) | (with_reducible assumption) | (with_reducible apply Kp.ext) | (with_reducible apply Kp.alloc) | (with_reducible apply Kp.drew) | (with_reducible apply Kp.drewN) | (with_reducible refine Kp.setCell ?_ (by first | (dsimp only; omega) | (simp; omega) | (simp; done) | (simp [size_ext_eq]; omega)) _)))
@[go_sem] theorem meth_LineString (x : Value) (w : World) : Sem.run Tryz.prog (method 215 59 x "GeoJSONType") w = .ok (71, x) w := by kernel_rfl
set_option maxHeartbeats 1000000 in
theorem gt_LineString (x : Value) (w : World) : Calls Tryz.prog 71 #[x] w (Ret w (.string "LineString".toByteArray)) := by
  go_enter Tryz.func71, Tryz.ntmps71
  go_wp2_with fail
  go_ret
  exact Ret.mk rfl (by repeat (first | (with_reducible exact Kp.refl _) | (with_reducible assumption) | (with_reducible apply Kp.ext) | (with_reducible apply Kp.alloc) | (with_reducible apply Kp.drew) | (with_reducible apply Kp.drewN) | (with_reducible refine Kp.setCell ?_ (by first | (dsimp only; omega) | (simp; omega) | (simp; done) | (simp [size_ext_eq]; omega)) _)))
@[go_sem] theorem meth_Polygon (x : Value) (w : World) : Sem.run Tryz.prog (method 215 61 x "GeoJSONType") w = .ok (90, x) w := by kernel_rfl
set_option maxHeartbeats 1000000 in
theorem gt_Polygon (x : Value) (w : World) : Calls Tryz.prog 90 #[x] w (Ret w (.string "Polygon".toByteArray)) := by
  go_enter Tryz.func90, Tryz.ntmps90
  go_wp2_with fail
  go_ret
  exact Ret.mk rfl (by repeat (first | (with_reducible exact Kp.refl _) | (with_reducible assumption) | (with_reducible apply Kp.ext) | (with_reducible apply Kp.alloc) | (with_reducible apply Kp.drew) | (with_reducible apply Kp.drewN) | (with_reducible refine Kp.setCell ?_ (by first | (dsimp only; omega) | (simp; omega) | (simp; done) | (simp [size_ext_eq]; omega)) _)))
@[go_sem] theorem meth_MultiPoint (x : Value) (w : World) : Sem.run Tryz.prog (method 215 63 x "GeoJSONType") w = .ok (94, x) w := by kernel_rfl
set_option maxHeartbeats 1000000 in
theorem gt_MultiPoint (x : Value) (w : World) : Calls Tryz.prog 94 #[x] w (Ret w (.string "MultiPoint".toByteArray)) := by
  go_enter Tryz.func94, Tryz.ntmps94
  go_wp2_with fail
  go_ret
  exact Ret.mk rfl (by repeat (first | (with_reducible exact Kp.refl _) | (with_reducible assumption) | (with_reducible apply Kp.ext) | (with_reducible apply Kp.alloc) | (with_reducible apply Kp.drew) | (with_reducible apply Kp.drewN) | (with_reducible refine Kp.setCell ?_ (by first | (dsimp only; omega) | (simp; omega) | (simp; done) | (simp [size_ext_eq]; omega)) _)))
@[go_sem] theorem meth_MultiLineString (x : Value) (w : World) : Sem.run Tryz.prog (method 215 65 x "GeoJSONType") w = .ok (98, x) w := by kernel_rfl
set_option maxHeartbeats 1000000 in
theorem gt_MultiLineString (x : Value) (w : World) : Calls Tryz.prog 98 #[x] w (Ret w (.string "MultiLineString".toByteArray)) := by
  go_enter Tryz.func98, Tryz.ntmps98
  go_wp2_with fail
  go_ret
  exact Ret.mk rfl (by repeat (first | (with_reducible exact Kp.refl _) | (with_reducible assumption) | (with_reducible apply Kp.ext) | (with_reducible apply Kp.alloc) | (with_reducible apply Kp.drew) | (with_reducible apply Kp.drewN) | (with_reducible refine Kp.setCell ?_ (by first | (dsimp only; omega) | (simp; omega) | (simp; done) | (simp [size_ext_eq]; omega)) _)))
@[go_sem] theorem meth_MultiPolygon (x : Value) (w : World) : Sem.run Tryz.prog (method 215 67 x "GeoJSONType") w = .ok (109, x) w := by kernel_rfl
set_option maxHeartbeats 1000000 in
theorem gt_MultiPolygon (x : Value) (w : World) : Calls Tryz.prog 109 #[x] w (Ret w (.string "MultiPolygon".toByteArray)) := by
  go_enter Tryz.func109, Tryz.ntmps109
  go_wp2_with fail
  go_ret
  exact Ret.mk rfl (by repeat (first | (with_reducible exact Kp.refl _) | (with_reducible assumption) | (with_reducible apply Kp.ext) | (with_reducible apply Kp.alloc) | (with_reducible apply Kp.drew) | (with_reducible apply Kp.drewN) | (with_reducible refine Kp.setCell ?_ (by first | (dsimp only; omega) | (simp; omega) | (simp; done) | (simp [size_ext_eq]; omega)) _)))
@[go_sem] theorem meth_Collection (x : Value) (w : World) : Sem.run Tryz.prog (method 215 69 x "GeoJSONType") w = .ok (113, x) w := by kernel_rfl
set_option maxHeartbeats 1000000 in
theorem gt_Collection (x : Value) (w : World) : Calls Tryz.prog 113 #[x] w (Ret w (.string "GeometryCollection".toByteArray)) := by
  go_enter Tryz.func113, Tryz.ntmps113
  go_wp2_with fail
  go_ret
  exact Ret.mk rfl (by repeat (first | (with_reducible exact Kp.refl _) | (with_reducible assumption) | (with_reducible apply Kp.ext) | (with_reducible apply Kp.alloc) | (with_reducible apply Kp.drew) | (with_reducible apply Kp.drewN) | (with_reducible refine Kp.setCell ?_ (by first | (dsimp only; omega) | (simp; omega) | (simp; done) | (simp [size_ext_eq]; omega)) _)))
set_option maxRecDepth 100000 in
set_option maxHeartbeats 1000000 in
theorem same_Point (ax ay bx by' : Nat) (w : World) : Calls Tryz.prog 24 #[.iface 51 (.agg #[.float .f64 ax, .float .f64 ay]), .iface 51 (.agg #[.float .f64 bx, .float .f64 by'])] w (Ret w (.bool (eqP (ax, ay) (bx, by')))) := by
  have t_Point := tas_Point_Point
  have t_one := tas1_Point
  go_enter Tryz.func24, Tryz.ntmps24
  go_wp2_with (go_at_call 63; (first | (with_reducible refine (Ret.at_ext (gt_Point _ _ _)).mono ?_) | (with_reducible refine (gt_Point _ _ _).mono ?_)); rintro e w' ⟨rfl, u, rfl⟩)
  first | (with_reducible refine wp_region_ext_lit2 ?_ ?_ ?_) | refine wp_region_ext_lit ?_ ?_ ?_
  kernel_rfl
  kernel_rfl
  repeat (go_big_quiet_step (first | (go_at_call 36; with_reducible exact Ret.quiet (optEq_c _ _ _ _ _))))
  refine wpQuiet_nil ?_
  rintro _ ⟨u, rfl⟩
  go_wp2_with fail
  exact bodyPost_ret (v := .bool (eqP (ax, ay) (bx, by'))) (by simp [results, Tryz.results24, go_sem]) rfl (Ret.mk rfl (by repeat (first | (with_reducible exact Kp.refl _) | (with_reducible assumption) | (with_reducible apply Kp.ext) | (with_reducible apply Kp.alloc) | (with_reducible apply Kp.drew) | (with_reducible apply Kp.drewN) | (with_reducible refine Kp.setCell ?_ (by first | (dsimp only; omega) | (simp; omega) | (simp; done) | (simp [size_ext_eq]; omega)) _))))
set_option maxRecDepth 100000 in
set_option maxHeartbeats 1000000 in
theorem same_LineString (x y : Value) (r : Bool) (w : World) (h : ∀ w', Kp w w' → Calls Tryz.prog 38 #[x, y] w' (Ret w' (.bool r))) : Calls Tryz.prog 24 #[.iface 59 x, .iface 59 y] w (Ret w (.bool r)) := by
  have H := Lib.hid h
  clear h
  have t_Point := tas_LineString_Point
  have t_MultiPoint := tas_LineString_MultiPoint
  have t_LineString := tas_LineString_LineString
  have t_one := tas1_LineString
  go_enter Tryz.func24, Tryz.ntmps24
  go_wp2_with (first | (go_at_call 71; (first | (with_reducible refine (Ret.at_ext (gt_LineString _ _)).mono ?_) | (with_reducible refine (gt_LineString _ _).mono ?_)); rintro e w' ⟨rfl, u, rfl⟩) | (go_at_call 38; (first | (with_reducible refine (Ret.at_ext (H.out _ (by repeat (first | (with_reducible exact Kp.refl _) | (with_reducible assumption) | (with_reducible apply Kp.ext) | (with_reducible apply Kp.alloc) | (with_reducible apply Kp.drew) | (with_reducible apply Kp.drewN) | (with_reducible refine Kp.setCell ?_ (by first | (dsimp only; omega) | (simp; omega) | (simp; done) | (simp [size_ext_eq]; omega)) _))))).mono ?_) | (with_reducible refine (H.out _ (by repeat (first | (with_reducible exact Kp.refl _) | (with_reducible assumption) | (with_reducible apply Kp.ext) | (with_reducible apply Kp.alloc) | (with_reducible apply Kp.drew) | (with_reducible apply Kp.drewN) | (with_reducible refine Kp.setCell ?_ (by first | (dsimp only; omega) | (simp; omega) | (simp; done) | (simp [size_ext_eq]; omega)) _)))).mono ?_)); rintro e w' ⟨rfl, u, rfl⟩))
  exact bodyPost_ret (v := .bool r) (by simp [results, Tryz.results24, go_sem]) rfl (Ret.mk rfl (by repeat (first | (with_reducible exact Kp.refl _) | (with_reducible assumption) | (with_reducible apply Kp.ext) | (with_reducible apply Kp.alloc) | (with_reducible apply Kp.drew) | (with_reducible apply Kp.drewN) | (with_reducible refine Kp.setCell ?_ (by first | (dsimp only; omega) | (simp; omega) | (simp; done) | (simp [size_ext_eq]; omega)) _))))
set_option maxRecDepth 100000 in
set_option maxHeartbeats 1000000 in
theorem same_Polygon (x y : Value) (r : Bool) (w : World) (h : ∀ w', Kp w w' → Calls Tryz.prog 41 #[x, y] w' (Ret w' (.bool r))) : Calls Tryz.prog 24 #[.iface 61 x, .iface 61 y] w (Ret w (.bool r)) := by
  have H := Lib.hid h
  clear h
  have t_Point := tas_Polygon_Point
  have t_MultiPoint := tas_Polygon_MultiPoint
  have t_LineString := tas_Polygon_LineString
  have t_MultiLineString := tas_Polygon_MultiLineString
  have t_Ring := tas_Polygon_Ring
  have t_Polygon := tas_Polygon_Polygon
  have t_one := tas1_Polygon
  go_enter Tryz.func24, Tryz.ntmps24
  go_wp2_with (first | (go_at_call 90; (first | (with_reducible refine (Ret.at_ext (gt_Polygon _ _)).mono ?_) | (with_reducible refine (gt_Polygon _ _).mono ?_)); rintro e w' ⟨rfl, u, rfl⟩) | (go_at_call 41; (first | (with_reducible refine (Ret.at_ext (H.out _ (by repeat (first | (with_reducible exact Kp.refl _) | (with_reducible assumption) | (with_reducible apply Kp.ext) | (with_reducible apply Kp.alloc) | (with_reducible apply Kp.drew) | (with_reducible apply Kp.drewN) | (with_reducible refine Kp.setCell ?_ (by first | (dsimp only; omega) | (simp; omega) | (simp; done) | (simp [size_ext_eq]; omega)) _))))).mono ?_) | (with_reducible refine (H.out _ (by repeat (first | (with_reducible exact Kp.refl _) | (with_reducible assumption) | (with_reducible apply Kp.ext) | (with_reducible apply Kp.alloc) | (with_reducible apply Kp.drew) | (with_reducible apply Kp.drewN) | (with_reducible refine Kp.setCell ?_ (by first | (dsimp only; omega) | (simp; omega) | (simp; done) | (simp [size_ext_eq]; omega)) _)))).mono ?_)); rintro e w' ⟨rfl, u, rfl⟩))
  exact bodyPost_ret (v := .bool r) (by simp [results, Tryz.results24, go_sem]) rfl (Ret.mk rfl (by repeat (first | (with_reducible exact Kp.refl _) | (with_reducible assumption) | (with_reducible apply Kp.ext) | (with_reducible apply Kp.alloc) | (with_reducible apply Kp.drew) | (with_reducible apply Kp.drewN) | (with_reducible refine Kp.setCell ?_ (by first | (dsimp only; omega) | (simp; omega) | (simp; done) | (simp [size_ext_eq]; omega)) _))))
set_option maxRecDepth 100000 in
set_option maxHeartbeats 1000000 in
theorem same_MultiPoint (x y : Value) (r : Bool) (w : World) (h : ∀ w', Kp w w' → Calls Tryz.prog 37 #[x, y] w' (Ret w' (.bool r))) : Calls Tryz.prog 24 #[.iface 63 x, .iface 63 y] w (Ret w (.bool r)) := by
  have H := Lib.hid h
  clear h
  have t_Point := tas_MultiPoint_Point
  have t_MultiPoint := tas_MultiPoint_MultiPoint
  have t_one := tas1_MultiPoint
  go_enter Tryz.func24, Tryz.ntmps24
  go_wp2_with (first | (go_at_call 94; (first | (with_reducible refine (Ret.at_ext (gt_MultiPoint _ _)).mono ?_) | (with_reducible refine (gt_MultiPoint _ _).mono ?_)); rintro e w' ⟨rfl, u, rfl⟩) | (go_at_call 37; (first | (with_reducible refine (Ret.at_ext (H.out _ (by repeat (first | (with_reducible exact Kp.refl _) | (with_reducible assumption) | (with_reducible apply Kp.ext) | (with_reducible apply Kp.alloc) | (with_reducible apply Kp.drew) | (with_reducible apply Kp.drewN) | (with_reducible refine Kp.setCell ?_ (by first | (dsimp only; omega) | (simp; omega) | (simp; done) | (simp [size_ext_eq]; omega)) _))))).mono ?_) | (with_reducible refine (H.out _ (by repeat (first | (with_reducible exact Kp.refl _) | (with_reducible assumption) | (with_reducible apply Kp.ext) | (with_reducible apply Kp.alloc) | (with_reducible apply Kp.drew) | (with_reducible apply Kp.drewN) | (with_reducible refine Kp.setCell ?_ (by first | (dsimp only; omega) | (simp; omega) | (simp; done) | (simp [size_ext_eq]; omega)) _)))).mono ?_)); rintro e w' ⟨rfl, u, rfl⟩))
  exact bodyPost_ret (v := .bool r) (by simp [results, Tryz.results24, go_sem]) rfl (Ret.mk rfl (by repeat (first | (with_reducible exact Kp.refl _) | (with_reducible assumption) | (with_reducible apply Kp.ext) | (with_reducible apply Kp.alloc) | (with_reducible apply Kp.drew) | (with_reducible apply Kp.drewN) | (with_reducible refine Kp.setCell ?_ (by first | (dsimp only; omega) | (simp; omega) | (simp; done) | (simp [size_ext_eq]; omega)) _))))
set_option maxRecDepth 100000 in
set_option maxHeartbeats 1000000 in
theorem same_MultiLineString (x y : Value) (r : Bool) (w : World) (h : ∀ w', Kp w w' → Calls Tryz.prog 39 #[x, y] w' (Ret w' (.bool r))) : Calls Tryz.prog 24 #[.iface 65 x, .iface 65 y] w (Ret w (.bool r)) := by
  have H := Lib.hid h
  clear h
  have t_Point := tas_MultiLineString_Point
  have t_MultiPoint := tas_MultiLineString_MultiPoint
  have t_LineString := tas_MultiLineString_LineString
  have t_MultiLineString := tas_MultiLineString_MultiLineString
  have t_one := tas1_MultiLineString
  go_enter Tryz.func24, Tryz.ntmps24
  go_wp2_with (first | (go_at_call 98; (first | (with_reducible refine (Ret.at_ext (gt_MultiLineString _ _)).mono ?_) | (with_reducible refine (gt_MultiLineString _ _).mono ?_)); rintro e w' ⟨rfl, u, rfl⟩) | (go_at_call 39; (first | (with_reducible refine (Ret.at_ext (H.out _ (by repeat (first | (with_reducible exact Kp.refl _) | (with_reducible assumption) | (with_reducible apply Kp.ext) | (with_reducible apply Kp.alloc) | (with_reducible apply Kp.drew) | (with_reducible apply Kp.drewN) | (with_reducible refine Kp.setCell ?_ (by first | (dsimp only; omega) | (simp; omega) | (simp; done) | (simp [size_ext_eq]; omega)) _))))).mono ?_) | (with_reducible refine (H.out _ (by repeat (first | (with_reducible exact Kp.refl _) | (with_reducible assumption) | (with_reducible apply Kp.ext) | (with_reducible apply Kp.alloc) | (with_reducible apply Kp.drew) | (with_reducible apply Kp.drewN) | (with_reducible refine Kp.setCell ?_ (by first | (dsimp only; omega) | (simp; omega) | (simp; done) | (simp [size_ext_eq]; omega)) _)))).mono ?_)); rintro e w' ⟨rfl, u, rfl⟩))
  exact bodyPost_ret (v := .bool r) (by simp [results, Tryz.results24, go_sem]) rfl (Ret.mk rfl (by repeat (first | (with_reducible exact Kp.refl _) | (with_reducible assumption) | (with_reducible apply Kp.ext) | (with_reducible apply Kp.alloc) | (with_reducible apply Kp.drew) | (with_reducible apply Kp.drewN) | (with_reducible refine Kp.setCell ?_ (by first | (dsimp only; omega) | (simp; omega) | (simp; done) | (simp [size_ext_eq]; omega)) _))))
set_option maxRecDepth 100000 in
set_option maxHeartbeats 1000000 in
theorem same_MultiPolygon (x y : Value) (r : Bool) (w : World) (h : ∀ w', Kp w w' → Calls Tryz.prog 42 #[x, y] w' (Ret w' (.bool r))) : Calls Tryz.prog 24 #[.iface 67 x, .iface 67 y] w (Ret w (.bool r)) := by
  have H := Lib.hid h
  clear h
  have t_Point := tas_MultiPolygon_Point
  have t_MultiPoint := tas_MultiPolygon_MultiPoint
  have t_LineString := tas_MultiPolygon_LineString
  have t_MultiLineString := tas_MultiPolygon_MultiLineString
  have t_Ring := tas_MultiPolygon_Ring
  have t_Polygon := tas_MultiPolygon_Polygon
  have t_MultiPolygon := tas_MultiPolygon_MultiPolygon
  have t_one := tas1_MultiPolygon
  go_enter Tryz.func24, Tryz.ntmps24
  go_wp2_with (first | (go_at_call 109; (first | (with_reducible refine (Ret.at_ext (gt_MultiPolygon _ _)).mono ?_) | (with_reducible refine (gt_MultiPolygon _ _).mono ?_)); rintro e w' ⟨rfl, u, rfl⟩) | (go_at_call 42; (first | (with_reducible refine (Ret.at_ext (H.out _ (by repeat (first | (with_reducible exact Kp.refl _) | (with_reducible assumption) | (with_reducible apply Kp.ext) | (with_reducible apply Kp.alloc) | (with_reducible apply Kp.drew) | (with_reducible apply Kp.drewN) | (with_reducible refine Kp.setCell ?_ (by first | (dsimp only; omega) | (simp; omega) | (simp; done) | (simp [size_ext_eq]; omega)) _))))).mono ?_) | (with_reducible refine (H.out _ (by repeat (first | (with_reducible exact Kp.refl _) | (with_reducible assumption) | (with_reducible apply Kp.ext) | (with_reducible apply Kp.alloc) | (with_reducible apply Kp.drew) | (with_reducible apply Kp.drewN) | (with_reducible refine Kp.setCell ?_ (by first | (dsimp only; omega) | (simp; omega) | (simp; done) | (simp [size_ext_eq]; omega)) _)))).mono ?_)); rintro e w' ⟨rfl, u, rfl⟩))
  exact bodyPost_ret (v := .bool r) (by simp [results, Tryz.results24, go_sem]) rfl (Ret.mk rfl (by repeat (first | (with_reducible exact Kp.refl _) | (with_reducible assumption) | (with_reducible apply Kp.ext) | (with_reducible apply Kp.alloc) | (with_reducible apply Kp.drew) | (with_reducible apply Kp.drewN) | (with_reducible refine Kp.setCell ?_ (by first | (dsimp only; omega) | (simp; omega) | (simp; done) | (simp [size_ext_eq]; omega)) _))))
set_option maxRecDepth 100000 in
set_option maxHeartbeats 1000000 in
theorem same_Collection (x y : Value) (r : Bool) (w : World) (h : ∀ w', Kp w w' → Calls Tryz.prog 43 #[x, y] w' (Ret w' (.bool r))) : Calls Tryz.prog 24 #[.iface 69 x, .iface 69 y] w (Ret w (.bool r)) := by
  have H := Lib.hid h
  clear h
  have t_Point := tas_Collection_Point
  have t_MultiPoint := tas_Collection_MultiPoint
  have t_LineString := tas_Collection_LineString
  have t_MultiLineString := tas_Collection_MultiLineString
  have t_Ring := tas_Collection_Ring
  have t_Polygon := tas_Collection_Polygon
  have t_MultiPolygon := tas_Collection_MultiPolygon
  have t_Collection := tas_Collection_Collection
  have t_one := tas1_Collection
  go_enter Tryz.func24, Tryz.ntmps24
  go_wp2_with (first | (go_at_call 113; (first | (with_reducible refine (Ret.at_ext (gt_Collection _ _)).mono ?_) | (with_reducible refine (gt_Collection _ _).mono ?_)); rintro e w' ⟨rfl, u, rfl⟩) | (go_at_call 43; (first | (with_reducible refine (Ret.at_ext (H.out _ (by repeat (first | (with_reducible exact Kp.refl _) | (with_reducible assumption) | (with_reducible apply Kp.ext) | (with_reducible apply Kp.alloc) | (with_reducible apply Kp.drew) | (with_reducible apply Kp.drewN) | (with_reducible refine Kp.setCell ?_ (by first | (dsimp only; omega) | (simp; omega) | (simp; done) | (simp [size_ext_eq]; omega)) _))))).mono ?_) | (with_reducible refine (H.out _ (by repeat (first | (with_reducible exact Kp.refl _) | (with_reducible assumption) | (with_reducible apply Kp.ext) | (with_reducible apply Kp.alloc) | (with_reducible apply Kp.drew) | (with_reducible apply Kp.drewN) | (with_reducible refine Kp.setCell ?_ (by first | (dsimp only; omega) | (simp; omega) | (simp; done) | (simp [size_ext_eq]; omega)) _)))).mono ?_)); rintro e w' ⟨rfl, u, rfl⟩))
  exact bodyPost_ret (v := .bool r) (by simp [results, Tryz.results24, go_sem]) rfl (Ret.mk rfl (by repeat (first | (with_reducible exact Kp.refl _) | (with_reducible assumption) | (with_reducible apply Kp.ext) | (with_reducible apply Kp.alloc) | (with_reducible apply Kp.drew) | (with_reducible apply Kp.drewN) | (with_reducible refine Kp.setCell ?_ (by first | (dsimp only; omega) | (simp; omega) | (simp; done) | (simp [size_ext_eq]; omega)) _))))
end Go.Proofs.YtohidpmkoehmcaaGreat
