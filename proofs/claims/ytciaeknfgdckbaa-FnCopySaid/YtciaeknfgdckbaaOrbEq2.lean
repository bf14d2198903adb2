/-
  orb.Equal of two geometries.
-/
import Derived.Test.YtciaeknfgdckbaaOrbEq
namespace Go.Proofs.Ytciaeknfgdckbaa
open PubFl Go.RowKit

attribute [local go_sem] cell_ext frozen_ext ext_setCell cell_store size_ext_eq lt_p0 lt_p1 lt_p2 lt_p3 lt_p4 lt_p5 lt_p6 lt_p7 lt_p8 lt_p9 lt_p10 lt_p11 lt_p12 lt_p13 lt_p14 lt_p15 lt_p16 lt_p17 lt_p18 lt_p19 lt_p20 lt_p21 lt_p22 lt_p23 lt_p24 lt_p25 lt_p26 lt_p27 lt_p28 lt_p29 lt_p30 lt_p31 lt_p32 lt_q1 lt_q2 lt_q3 lt_q4 lt_q5 lt_q6 lt_q7 lt_q8 lt_q9 lt_q10 lt_q11 lt_q12 lt_q13 lt_q14 lt_q15 lt_q16 lt_q17 lt_q18 lt_q19 lt_q20 lt_q21 lt_q22 lt_q23 lt_q24 lt_q25 lt_q26 lt_q27 lt_q28 lt_q29 lt_q30 lt_q31 lt_q32 run_fop run_store_float
attribute [local go_sem high] cmp_eql cmp_neq cmp_lss cmp_leq cmp_gtr cmp_geq

theorem tas_Point_Point (x y : Nat) (w : World) : (Instr.typeAssert (.iface 46 (.agg #[.float .f64 x, .float .f64 y])) 43 46 true).run Try.prog w = .ok (.tuple #[.agg #[.float .f64 x, .float .f64 y], .bool true]) w := by kernel_rfl
theorem tas_Point_MultiPoint (x y : Nat) (w : World) : (Instr.typeAssert (.iface 46 (.agg #[.float .f64 x, .float .f64 y])) 43 63 true).run Try.prog w = .ok (.tuple #[.slice none 0 0, .bool false]) w := by kernel_rfl
theorem tas_Point_LineString (x y : Nat) (w : World) : (Instr.typeAssert (.iface 46 (.agg #[.float .f64 x, .float .f64 y])) 43 59 true).run Try.prog w = .ok (.tuple #[.slice none 0 0, .bool false]) w := by kernel_rfl
theorem tas_Point_MultiLineString (x y : Nat) (w : World) : (Instr.typeAssert (.iface 46 (.agg #[.float .f64 x, .float .f64 y])) 43 65 true).run Try.prog w = .ok (.tuple #[.slice none 0 0, .bool false]) w := by kernel_rfl
theorem tas_Point_Ring (x y : Nat) (w : World) : (Instr.typeAssert (.iface 46 (.agg #[.float .f64 x, .float .f64 y])) 43 76 true).run Try.prog w = .ok (.tuple #[.slice none 0 0, .bool false]) w := by kernel_rfl
theorem tas_Point_Polygon (x y : Nat) (w : World) : (Instr.typeAssert (.iface 46 (.agg #[.float .f64 x, .float .f64 y])) 43 61 true).run Try.prog w = .ok (.tuple #[.slice none 0 0, .bool false]) w := by kernel_rfl
theorem tas_Point_MultiPolygon (x y : Nat) (w : World) : (Instr.typeAssert (.iface 46 (.agg #[.float .f64 x, .float .f64 y])) 43 67 true).run Try.prog w = .ok (.tuple #[.slice none 0 0, .bool false]) w := by kernel_rfl
theorem tas_Point_Collection (x y : Nat) (w : World) : (Instr.typeAssert (.iface 46 (.agg #[.float .f64 x, .float .f64 y])) 43 69 true).run Try.prog w = .ok (.tuple #[.slice none 0 0, .bool false]) w := by kernel_rfl
theorem tas1_Point (x y : Nat) (w : World) : (Instr.typeAssert (.iface 46 (.agg #[.float .f64 x, .float .f64 y])) 43 46 false).run Try.prog w = .ok (.agg #[.float .f64 x, .float .f64 y]) w := by kernel_rfl
theorem tas_LineString_Point (v : Value) (w : World) : (Instr.typeAssert (.iface 59 v) 43 46 true).run Try.prog w = .ok (.tuple #[.agg #[.float .f64 0, .float .f64 0], .bool false]) w := by kernel_rfl
theorem tas_LineString_MultiPoint (v : Value) (w : World) : (Instr.typeAssert (.iface 59 v) 43 63 true).run Try.prog w = .ok (.tuple #[.slice none 0 0, .bool false]) w := by kernel_rfl
theorem tas_LineString_LineString (v : Value) (w : World) : (Instr.typeAssert (.iface 59 v) 43 59 true).run Try.prog w = .ok (.tuple #[v, .bool true]) w := by kernel_rfl
theorem tas_LineString_MultiLineString (v : Value) (w : World) : (Instr.typeAssert (.iface 59 v) 43 65 true).run Try.prog w = .ok (.tuple #[.slice none 0 0, .bool false]) w := by kernel_rfl
theorem tas_LineString_Ring (v : Value) (w : World) : (Instr.typeAssert (.iface 59 v) 43 76 true).run Try.prog w = .ok (.tuple #[.slice none 0 0, .bool false]) w := by kernel_rfl
theorem tas_LineString_Polygon (v : Value) (w : World) : (Instr.typeAssert (.iface 59 v) 43 61 true).run Try.prog w = .ok (.tuple #[.slice none 0 0, .bool false]) w := by kernel_rfl
theorem tas_LineString_MultiPolygon (v : Value) (w : World) : (Instr.typeAssert (.iface 59 v) 43 67 true).run Try.prog w = .ok (.tuple #[.slice none 0 0, .bool false]) w := by kernel_rfl
theorem tas_LineString_Collection (v : Value) (w : World) : (Instr.typeAssert (.iface 59 v) 43 69 true).run Try.prog w = .ok (.tuple #[.slice none 0 0, .bool false]) w := by kernel_rfl
theorem tas1_LineString (v : Value) (w : World) : (Instr.typeAssert (.iface 59 v) 43 59 false).run Try.prog w = .ok v w := by kernel_rfl
theorem tas_Polygon_Point (v : Value) (w : World) : (Instr.typeAssert (.iface 61 v) 43 46 true).run Try.prog w = .ok (.tuple #[.agg #[.float .f64 0, .float .f64 0], .bool false]) w := by kernel_rfl
theorem tas_Polygon_MultiPoint (v : Value) (w : World) : (Instr.typeAssert (.iface 61 v) 43 63 true).run Try.prog w = .ok (.tuple #[.slice none 0 0, .bool false]) w := by kernel_rfl
theorem tas_Polygon_LineString (v : Value) (w : World) : (Instr.typeAssert (.iface 61 v) 43 59 true).run Try.prog w = .ok (.tuple #[.slice none 0 0, .bool false]) w := by kernel_rfl
theorem tas_Polygon_MultiLineString (v : Value) (w : World) : (Instr.typeAssert (.iface 61 v) 43 65 true).run Try.prog w = .ok (.tuple #[.slice none 0 0, .bool false]) w := by kernel_rfl
theorem tas_Polygon_Ring (v : Value) (w : World) : (Instr.typeAssert (.iface 61 v) 43 76 true).run Try.prog w = .ok (.tuple #[.slice none 0 0, .bool false]) w := by kernel_rfl
theorem tas_Polygon_Polygon (v : Value) (w : World) : (Instr.typeAssert (.iface 61 v) 43 61 true).run Try.prog w = .ok (.tuple #[v, .bool true]) w := by kernel_rfl
theorem tas_Polygon_MultiPolygon (v : Value) (w : World) : (Instr.typeAssert (.iface 61 v) 43 67 true).run Try.prog w = .ok (.tuple #[.slice none 0 0, .bool false]) w := by kernel_rfl
theorem tas_Polygon_Collection (v : Value) (w : World) : (Instr.typeAssert (.iface 61 v) 43 69 true).run Try.prog w = .ok (.tuple #[.slice none 0 0, .bool false]) w := by kernel_rfl
theorem tas1_Polygon (v : Value) (w : World) : (Instr.typeAssert (.iface 61 v) 43 61 false).run Try.prog w = .ok v w := by kernel_rfl
theorem tas_MultiPoint_Point (v : Value) (w : World) : (Instr.typeAssert (.iface 63 v) 43 46 true).run Try.prog w = .ok (.tuple #[.agg #[.float .f64 0, .float .f64 0], .bool false]) w := by kernel_rfl
theorem tas_MultiPoint_MultiPoint (v : Value) (w : World) : (Instr.typeAssert (.iface 63 v) 43 63 true).run Try.prog w = .ok (.tuple #[v, .bool true]) w := by kernel_rfl
theorem tas_MultiPoint_LineString (v : Value) (w : World) : (Instr.typeAssert (.iface 63 v) 43 59 true).run Try.prog w = .ok (.tuple #[.slice none 0 0, .bool false]) w := by kernel_rfl
theorem tas_MultiPoint_MultiLineString (v : Value) (w : World) : (Instr.typeAssert (.iface 63 v) 43 65 true).run Try.prog w = .ok (.tuple #[.slice none 0 0, .bool false]) w := by kernel_rfl
theorem tas_MultiPoint_Ring (v : Value) (w : World) : (Instr.typeAssert (.iface 63 v) 43 76 true).run Try.prog w = .ok (.tuple #[.slice none 0 0, .bool false]) w := by kernel_rfl
theorem tas_MultiPoint_Polygon (v : Value) (w : World) : (Instr.typeAssert (.iface 63 v) 43 61 true).run Try.prog w = .ok (.tuple #[.slice none 0 0, .bool false]) w := by kernel_rfl
theorem tas_MultiPoint_MultiPolygon (v : Value) (w : World) : (Instr.typeAssert (.iface 63 v) 43 67 true).run Try.prog w = .ok (.tuple #[.slice none 0 0, .bool false]) w := by kernel_rfl
theorem tas_MultiPoint_Collection (v : Value) (w : World) : (Instr.typeAssert (.iface 63 v) 43 69 true).run Try.prog w = .ok (.tuple #[.slice none 0 0, .bool false]) w := by kernel_rfl
theorem tas1_MultiPoint (v : Value) (w : World) : (Instr.typeAssert (.iface 63 v) 43 63 false).run Try.prog w = .ok v w := by kernel_rfl
theorem tas_MultiLineString_Point (v : Value) (w : World) : (Instr.typeAssert (.iface 65 v) 43 46 true).run Try.prog w = .ok (.tuple #[.agg #[.float .f64 0, .float .f64 0], .bool false]) w := by kernel_rfl
theorem tas_MultiLineString_MultiPoint (v : Value) (w : World) : (Instr.typeAssert (.iface 65 v) 43 63 true).run Try.prog w = .ok (.tuple #[.slice none 0 0, .bool false]) w := by kernel_rfl
theorem tas_MultiLineString_LineString (v : Value) (w : World) : (Instr.typeAssert (.iface 65 v) 43 59 true).run Try.prog w = .ok (.tuple #[.slice none 0 0, .bool false]) w := by kernel_rfl
theorem tas_MultiLineString_MultiLineString (v : Value) (w : World) : (Instr.typeAssert (.iface 65 v) 43 65 true).run Try.prog w = .ok (.tuple #[v, .bool true]) w := by kernel_rfl
theorem tas_MultiLineString_Ring (v : Value) (w : World) : (Instr.typeAssert (.iface 65 v) 43 76 true).run Try.prog w = .ok (.tuple #[.slice none 0 0, .bool false]) w := by kernel_rfl
theorem tas_MultiLineString_Polygon (v : Value) (w : World) : (Instr.typeAssert (.iface 65 v) 43 61 true).run Try.prog w = .ok (.tuple #[.slice none 0 0, .bool false]) w := by kernel_rfl
theorem tas_MultiLineString_MultiPolygon (v : Value) (w : World) : (Instr.typeAssert (.iface 65 v) 43 67 true).run Try.prog w = .ok (.tuple #[.slice none 0 0, .bool false]) w := by kernel_rfl
theorem tas_MultiLineString_Collection (v : Value) (w : World) : (Instr.typeAssert (.iface 65 v) 43 69 true).run Try.prog w = .ok (.tuple #[.slice none 0 0, .bool false]) w := by kernel_rfl
theorem tas1_MultiLineString (v : Value) (w : World) : (Instr.typeAssert (.iface 65 v) 43 65 false).run Try.prog w = .ok v w := by kernel_rfl
theorem tas_MultiPolygon_Point (v : Value) (w : World) : (Instr.typeAssert (.iface 67 v) 43 46 true).run Try.prog w = .ok (.tuple #[.agg #[.float .f64 0, .float .f64 0], .bool false]) w := by kernel_rfl
theorem tas_MultiPolygon_MultiPoint (v : Value) (w : World) : (Instr.typeAssert (.iface 67 v) 43 63 true).run Try.prog w = .ok (.tuple #[.slice none 0 0, .bool false]) w := by kernel_rfl
theorem tas_MultiPolygon_LineString (v : Value) (w : World) : (Instr.typeAssert (.iface 67 v) 43 59 true).run Try.prog w = .ok (.tuple #[.slice none 0 0, .bool false]) w := by kernel_rfl
theorem tas_MultiPolygon_MultiLineString (v : Value) (w : World) : (Instr.typeAssert (.iface 67 v) 43 65 true).run Try.prog w = .ok (.tuple #[.slice none 0 0, .bool false]) w := by kernel_rfl
theorem tas_MultiPolygon_Ring (v : Value) (w : World) : (Instr.typeAssert (.iface 67 v) 43 76 true).run Try.prog w = .ok (.tuple #[.slice none 0 0, .bool false]) w := by kernel_rfl
theorem tas_MultiPolygon_Polygon (v : Value) (w : World) : (Instr.typeAssert (.iface 67 v) 43 61 true).run Try.prog w = .ok (.tuple #[.slice none 0 0, .bool false]) w := by kernel_rfl
theorem tas_MultiPolygon_MultiPolygon (v : Value) (w : World) : (Instr.typeAssert (.iface 67 v) 43 67 true).run Try.prog w = .ok (.tuple #[v, .bool true]) w := by kernel_rfl
theorem tas_MultiPolygon_Collection (v : Value) (w : World) : (Instr.typeAssert (.iface 67 v) 43 69 true).run Try.prog w = .ok (.tuple #[.slice none 0 0, .bool false]) w := by kernel_rfl
theorem tas1_MultiPolygon (v : Value) (w : World) : (Instr.typeAssert (.iface 67 v) 43 67 false).run Try.prog w = .ok v w := by kernel_rfl
theorem tas_Collection_Point (v : Value) (w : World) : (Instr.typeAssert (.iface 69 v) 43 46 true).run Try.prog w = .ok (.tuple #[.agg #[.float .f64 0, .float .f64 0], .bool false]) w := by kernel_rfl
theorem tas_Collection_MultiPoint (v : Value) (w : World) : (Instr.typeAssert (.iface 69 v) 43 63 true).run Try.prog w = .ok (.tuple #[.slice none 0 0, .bool false]) w := by kernel_rfl
theorem tas_Collection_LineString (v : Value) (w : World) : (Instr.typeAssert (.iface 69 v) 43 59 true).run Try.prog w = .ok (.tuple #[.slice none 0 0, .bool false]) w := by kernel_rfl
theorem tas_Collection_MultiLineString (v : Value) (w : World) : (Instr.typeAssert (.iface 69 v) 43 65 true).run Try.prog w = .ok (.tuple #[.slice none 0 0, .bool false]) w := by kernel_rfl
theorem tas_Collection_Ring (v : Value) (w : World) : (Instr.typeAssert (.iface 69 v) 43 76 true).run Try.prog w = .ok (.tuple #[.slice none 0 0, .bool false]) w := by kernel_rfl
theorem tas_Collection_Polygon (v : Value) (w : World) : (Instr.typeAssert (.iface 69 v) 43 61 true).run Try.prog w = .ok (.tuple #[.slice none 0 0, .bool false]) w := by kernel_rfl
theorem tas_Collection_MultiPolygon (v : Value) (w : World) : (Instr.typeAssert (.iface 69 v) 43 67 true).run Try.prog w = .ok (.tuple #[.slice none 0 0, .bool false]) w := by kernel_rfl
theorem tas_Collection_Collection (v : Value) (w : World) : (Instr.typeAssert (.iface 69 v) 43 69 true).run Try.prog w = .ok (.tuple #[v, .bool true]) w := by kernel_rfl
theorem tas1_Collection (v : Value) (w : World) : (Instr.typeAssert (.iface 69 v) 43 69 false).run Try.prog w = .ok v w := by kernel_rfl
@[go_sem] theorem meth_Point (x : Value) (w : World) : Sem.run Try.prog (method 220 46 x "GeoJSONType") w = .ok (82, x) w := by kernel_rfl
set_option maxHeartbeats 1000000 in
theorem gt_Point (x y : Nat) (w : World) : Calls Try.prog 82 #[.agg #[.float .f64 x, .float .f64 y]] w (Ret w (.string "Point".toByteArray)) := by
  go_enter Try.func82, Try.ntmps82
  go_wp2_with fail
  go_ret
  exact Ret.mk rfl (by repeat (first | (with_reducible exact Kp.refl _) | (with_reducible assumption) | (with_reducible apply Kp.ext) | (with_reducible apply Kp.alloc) | (with_reducible apply Kp.drew) | (with_reducible apply Kp.drewN) | (with_reducible refine Kp.setCell ?_ (by first | (dsimp only; omega) | (simp; omega) | (simp; done) | (simp [size_ext_eq]; omega)) _)))
@[go_sem] theorem meth_LineString (x : Value) (w : World) : Sem.run Try.prog (method 220 59 x "GeoJSONType") w = .ok (90, x) w := by kernel_rfl
set_option maxHeartbeats 1000000 in
theorem gt_LineString (x : Value) (w : World) : Calls Try.prog 90 #[x] w (Ret w (.string "LineString".toByteArray)) := by
  go_enter Try.func90, Try.ntmps90
  go_wp2_with fail
  go_ret
  exact Ret.mk rfl (by repeat (first | (with_reducible exact Kp.refl _) | (with_reducible assumption) | (with_reducible apply Kp.ext) | (with_reducible apply Kp.alloc) | (with_reducible apply Kp.drew) | (with_reducible apply Kp.drewN) | (with_reducible refine Kp.setCell ?_ (by first | (dsimp only; omega) | (simp; omega) | (simp; done) | (simp [size_ext_eq]; omega)) _)))
@[go_sem] theorem meth_Polygon (x : Value) (w : World) : Sem.run Try.prog (method 220 61 x "GeoJSONType") w = .ok (99, x) w := by kernel_rfl
set_option maxHeartbeats 1000000 in
theorem gt_Polygon (x : Value) (w : World) : Calls Try.prog 99 #[x] w (Ret w (.string "Polygon".toByteArray)) := by
  go_enter Try.func99, Try.ntmps99
  go_wp2_with fail
  go_ret
  exact Ret.mk rfl (by repeat (first | (with_reducible exact Kp.refl _) | (with_reducible assumption) | (with_reducible apply Kp.ext) | (with_reducible apply Kp.alloc) | (with_reducible apply Kp.drew) | (with_reducible apply Kp.drewN) | (with_reducible refine Kp.setCell ?_ (by first | (dsimp only; omega) | (simp; omega) | (simp; done) | (simp [size_ext_eq]; omega)) _)))
@[go_sem] theorem meth_MultiPoint (x : Value) (w : World) : Sem.run Try.prog (method 220 63 x "GeoJSONType") w = .ok (103, x) w := by kernel_rfl
set_option maxHeartbeats 1000000 in
theorem gt_MultiPoint (x : Value) (w : World) : Calls Try.prog 103 #[x] w (Ret w (.string "MultiPoint".toByteArray)) := by
  go_enter Try.func103, Try.ntmps103
  go_wp2_with fail
  go_ret
  exact Ret.mk rfl (by repeat (first | (with_reducible exact Kp.refl _) | (with_reducible assumption) | (with_reducible apply Kp.ext) | (with_reducible apply Kp.alloc) | (with_reducible apply Kp.drew) | (with_reducible apply Kp.drewN) | (with_reducible refine Kp.setCell ?_ (by first | (dsimp only; omega) | (simp; omega) | (simp; done) | (simp [size_ext_eq]; omega)) _)))
@[go_sem] theorem meth_MultiLineString (x : Value) (w : World) : Sem.run Try.prog (method 220 65 x "GeoJSONType") w = .ok (107, x) w := by kernel_rfl
set_option maxHeartbeats 1000000 in
theorem gt_MultiLineString (x : Value) (w : World) : Calls Try.prog 107 #[x] w (Ret w (.string "MultiLineString".toByteArray)) := by
  go_enter Try.func107, Try.ntmps107
  go_wp2_with fail
  go_ret
  exact Ret.mk rfl (by repeat (first | (with_reducible exact Kp.refl _) | (with_reducible assumption) | (with_reducible apply Kp.ext) | (with_reducible apply Kp.alloc) | (with_reducible apply Kp.drew) | (with_reducible apply Kp.drewN) | (with_reducible refine Kp.setCell ?_ (by first | (dsimp only; omega) | (simp; omega) | (simp; done) | (simp [size_ext_eq]; omega)) _)))
@[go_sem] theorem meth_MultiPolygon (x : Value) (w : World) : Sem.run Try.prog (method 220 67 x "GeoJSONType") w = .ok (118, x) w := by kernel_rfl
set_option maxHeartbeats 1000000 in
theorem gt_MultiPolygon (x : Value) (w : World) : Calls Try.prog 118 #[x] w (Ret w (.string "MultiPolygon".toByteArray)) := by
  go_enter Try.func118, Try.ntmps118
  go_wp2_with fail
  go_ret
  exact Ret.mk rfl (by repeat (first | (with_reducible exact Kp.refl _) | (with_reducible assumption) | (with_reducible apply Kp.ext) | (with_reducible apply Kp.alloc) | (with_reducible apply Kp.drew) | (with_reducible apply Kp.drewN) | (with_reducible refine Kp.setCell ?_ (by first | (dsimp only; omega) | (simp; omega) | (simp; done) | (simp [size_ext_eq]; omega)) _)))
@[go_sem] theorem meth_Collection (x : Value) (w : World) : Sem.run Try.prog (method 220 69 x "GeoJSONType") w = .ok (122, x) w := by kernel_rfl
set_option maxHeartbeats 1000000 in
theorem gt_Collection (x : Value) (w : World) : Calls Try.prog 122 #[x] w (Ret w (.string "GeometryCollection".toByteArray)) := by
  go_enter Try.func122, Try.ntmps122
  go_wp2_with fail
  go_ret
  exact Ret.mk rfl (by repeat (first | (with_reducible exact Kp.refl _) | (with_reducible assumption) | (with_reducible apply Kp.ext) | (with_reducible apply Kp.alloc) | (with_reducible apply Kp.drew) | (with_reducible apply Kp.drewN) | (with_reducible refine Kp.setCell ?_ (by first | (dsimp only; omega) | (simp; omega) | (simp; done) | (simp [size_ext_eq]; omega)) _)))
set_option maxRecDepth 100000 in
set_option maxHeartbeats 1000000 in
theorem same_Point (ax ay bx by' : Nat) (w : World) : Calls Try.prog 30 #[.iface 46 (.agg #[.float .f64 ax, .float .f64 ay]), .iface 46 (.agg #[.float .f64 bx, .float .f64 by'])] w (Ret w (.bool (eqP (ax, ay) (bx, by')))) := by
  have t_Point := tas_Point_Point
  have t_one := tas1_Point
  go_enter Try.func30, Try.ntmps30
  go_wp2_with (go_at_call 82; (first | (with_reducible refine (Ret.at_ext (gt_Point _ _ _)).mono ?_) | (with_reducible refine (gt_Point _ _ _).mono ?_)); rintro e w' ⟨rfl, u, rfl⟩)
  first | (with_reducible refine wp_region_ext_lit2 ?_ ?_ ?_) | refine wp_region_ext_lit ?_ ?_ ?_
  kernel_rfl
  kernel_rfl
  repeat (go_big_quiet_step (first | (go_at_call 48; with_reducible exact Ret.quiet (optEq_c _ _ _ _ _))))
  refine wpQuiet_nil ?_
  rintro _ ⟨u, rfl⟩
  go_wp2_with fail
  exact bodyPost_ret (v := .bool (eqP (ax, ay) (bx, by'))) (by simp [results, Try.results30, go_sem]) rfl (Ret.mk rfl (by repeat (first | (with_reducible exact Kp.refl _) | (with_reducible assumption) | (with_reducible apply Kp.ext) | (with_reducible apply Kp.alloc) | (with_reducible apply Kp.drew) | (with_reducible apply Kp.drewN) | (with_reducible refine Kp.setCell ?_ (by first | (dsimp only; omega) | (simp; omega) | (simp; done) | (simp [size_ext_eq]; omega)) _))))
set_option maxRecDepth 100000 in
set_option maxHeartbeats 1000000 in
theorem same_LineString (x y : Value) (r : Bool) (w : World) (h : ∀ w', Kp w w' → Calls Try.prog 50 #[x, y] w' (Ret w' (.bool r))) : Calls Try.prog 30 #[.iface 59 x, .iface 59 y] w (Ret w (.bool r)) := by
  have H := Lib.hid h
  clear h
  have t_Point := tas_LineString_Point
  have t_MultiPoint := tas_LineString_MultiPoint
  have t_LineString := tas_LineString_LineString
  have t_one := tas1_LineString
  go_enter Try.func30, Try.ntmps30
  go_wp2_with (first | (go_at_call 90; (first | (with_reducible refine (Ret.at_ext (gt_LineString _ _)).mono ?_) | (with_reducible refine (gt_LineString _ _).mono ?_)); rintro e w' ⟨rfl, u, rfl⟩) | (go_at_call 50; (first | (with_reducible refine (Ret.at_ext (H.out _ (by repeat (first | (with_reducible exact Kp.refl _) | (with_reducible assumption) | (with_reducible apply Kp.ext) | (with_reducible apply Kp.alloc) | (with_reducible apply Kp.drew) | (with_reducible apply Kp.drewN) | (with_reducible refine Kp.setCell ?_ (by first | (dsimp only; omega) | (simp; omega) | (simp; done) | (simp [size_ext_eq]; omega)) _))))).mono ?_) | (with_reducible refine (H.out _ (by repeat (first | (with_reducible exact Kp.refl _) | (with_reducible assumption) | (with_reducible apply Kp.ext) | (with_reducible apply Kp.alloc) | (with_reducible apply Kp.drew) | (with_reducible apply Kp.drewN) | (with_reducible refine Kp.setCell ?_ (by first | (dsimp only; omega) | (simp; omega) | (simp; done) | (simp [size_ext_eq]; omega)) _)))).mono ?_)); rintro e w' ⟨rfl, u, rfl⟩))
  exact bodyPost_ret (v := .bool r) (by simp [results, Try.results30, go_sem]) rfl (Ret.mk rfl (by repeat (first | (with_reducible exact Kp.refl _) | (with_reducible assumption) | (with_reducible apply Kp.ext) | (with_reducible apply Kp.alloc) | (with_reducible apply Kp.drew) | (with_reducible apply Kp.drewN) | (with_reducible refine Kp.setCell ?_ (by first | (dsimp only; omega) | (simp; omega) | (simp; done) | (simp [size_ext_eq]; omega)) _))))
set_option maxRecDepth 100000 in
set_option maxHeartbeats 1000000 in
theorem same_Polygon (x y : Value) (r : Bool) (w : World) (h : ∀ w', Kp w w' → Calls Try.prog 53 #[x, y] w' (Ret w' (.bool r))) : Calls Try.prog 30 #[.iface 61 x, .iface 61 y] w (Ret w (.bool r)) := by
  have H := Lib.hid h
  clear h
  have t_Point := tas_Polygon_Point
  have t_MultiPoint := tas_Polygon_MultiPoint
  have t_LineString := tas_Polygon_LineString
  have t_MultiLineString := tas_Polygon_MultiLineString
  have t_Ring := tas_Polygon_Ring
  have t_Polygon := tas_Polygon_Polygon
  have t_one := tas1_Polygon
  go_enter Try.func30, Try.ntmps30
  go_wp2_with (first | (go_at_call 99; (first | (with_reducible refine (Ret.at_ext (gt_Polygon _ _)).mono ?_) | (with_reducible refine (gt_Polygon _ _).mono ?_)); rintro e w' ⟨rfl, u, rfl⟩) | (go_at_call 53; (first | (with_reducible refine (Ret.at_ext (H.out _ (by repeat (first | (with_reducible exact Kp.refl _) | (with_reducible assumption) | (with_reducible apply Kp.ext) | (with_reducible apply Kp.alloc) | (with_reducible apply Kp.drew) | (with_reducible apply Kp.drewN) | (with_reducible refine Kp.setCell ?_ (by first | (dsimp only; omega) | (simp; omega) | (simp; done) | (simp [size_ext_eq]; omega)) _))))).mono ?_) | (with_reducible refine (H.out _ (by repeat (first | (with_reducible exact Kp.refl _) | (with_reducible assumption) | (with_reducible apply Kp.ext) | (with_reducible apply Kp.alloc) | (with_reducible apply Kp.drew) | (with_reducible apply Kp.drewN) | (with_reducible refine Kp.setCell ?_ (by first | (dsimp only; omega) | (simp; omega) | (simp; done) | (simp [size_ext_eq]; omega)) _)))).mono ?_)); rintro e w' ⟨rfl, u, rfl⟩))
  exact bodyPost_ret (v := .bool r) (by simp [results, Try.results30, go_sem]) rfl (Ret.mk rfl (by repeat (first | (with_reducible exact Kp.refl _) | (with_reducible assumption) | (with_reducible apply Kp.ext) | (with_reducible apply Kp.alloc) | (with_reducible apply Kp.drew) | (with_reducible apply Kp.drewN) | (with_reducible refine Kp.setCell ?_ (by first | (dsimp only; omega) | (simp; omega) | (simp; done) | (simp [size_ext_eq]; omega)) _))))
set_option maxRecDepth 100000 in
set_option maxHeartbeats 1000000 in
theorem same_MultiPoint (x y : Value) (r : Bool) (w : World) (h : ∀ w', Kp w w' → Calls Try.prog 49 #[x, y] w' (Ret w' (.bool r))) : Calls Try.prog 30 #[.iface 63 x, .iface 63 y] w (Ret w (.bool r)) := by
  have H := Lib.hid h
  clear h
  have t_Point := tas_MultiPoint_Point
  have t_MultiPoint := tas_MultiPoint_MultiPoint
  have t_one := tas1_MultiPoint
  go_enter Try.func30, Try.ntmps30
  go_wp2_with (first | (go_at_call 103; (first | (with_reducible refine (Ret.at_ext (gt_MultiPoint _ _)).mono ?_) | (with_reducible refine (gt_MultiPoint _ _).mono ?_)); rintro e w' ⟨rfl, u, rfl⟩) | (go_at_call 49; (first | (with_reducible refine (Ret.at_ext (H.out _ (by repeat (first | (with_reducible exact Kp.refl _) | (with_reducible assumption) | (with_reducible apply Kp.ext) | (with_reducible apply Kp.alloc) | (with_reducible apply Kp.drew) | (with_reducible apply Kp.drewN) | (with_reducible refine Kp.setCell ?_ (by first | (dsimp only; omega) | (simp; omega) | (simp; done) | (simp [size_ext_eq]; omega)) _))))).mono ?_) | (with_reducible refine (H.out _ (by repeat (first | (with_reducible exact Kp.refl _) | (with_reducible assumption) | (with_reducible apply Kp.ext) | (with_reducible apply Kp.alloc) | (with_reducible apply Kp.drew) | (with_reducible apply Kp.drewN) | (with_reducible refine Kp.setCell ?_ (by first | (dsimp only; omega) | (simp; omega) | (simp; done) | (simp [size_ext_eq]; omega)) _)))).mono ?_)); rintro e w' ⟨rfl, u, rfl⟩))
  exact bodyPost_ret (v := .bool r) (by simp [results, Try.results30, go_sem]) rfl (Ret.mk rfl (by repeat (first | (with_reducible exact Kp.refl _) | (with_reducible assumption) | (with_reducible apply Kp.ext) | (with_reducible apply Kp.alloc) | (with_reducible apply Kp.drew) | (with_reducible apply Kp.drewN) | (with_reducible refine Kp.setCell ?_ (by first | (dsimp only; omega) | (simp; omega) | (simp; done) | (simp [size_ext_eq]; omega)) _))))
set_option maxRecDepth 100000 in
set_option maxHeartbeats 1000000 in
theorem same_MultiLineString (x y : Value) (r : Bool) (w : World) (h : ∀ w', Kp w w' → Calls Try.prog 51 #[x, y] w' (Ret w' (.bool r))) : Calls Try.prog 30 #[.iface 65 x, .iface 65 y] w (Ret w (.bool r)) := by
  have H := Lib.hid h
  clear h
  have t_Point := tas_MultiLineString_Point
  have t_MultiPoint := tas_MultiLineString_MultiPoint
  have t_LineString := tas_MultiLineString_LineString
  have t_MultiLineString := tas_MultiLineString_MultiLineString
  have t_one := tas1_MultiLineString
  go_enter Try.func30, Try.ntmps30
  go_wp2_with (first | (go_at_call 107; (first | (with_reducible refine (Ret.at_ext (gt_MultiLineString _ _)).mono ?_) | (with_reducible refine (gt_MultiLineString _ _).mono ?_)); rintro e w' ⟨rfl, u, rfl⟩) | (go_at_call 51; (first | (with_reducible refine (Ret.at_ext (H.out _ (by repeat (first | (with_reducible exact Kp.refl _) | (with_reducible assumption) | (with_reducible apply Kp.ext) | (with_reducible apply Kp.alloc) | (with_reducible apply Kp.drew) | (with_reducible apply Kp.drewN) | (with_reducible refine Kp.setCell ?_ (by first | (dsimp only; omega) | (simp; omega) | (simp; done) | (simp [size_ext_eq]; omega)) _))))).mono ?_) | (with_reducible refine (H.out _ (by repeat (first | (with_reducible exact Kp.refl _) | (with_reducible assumption) | (with_reducible apply Kp.ext) | (with_reducible apply Kp.alloc) | (with_reducible apply Kp.drew) | (with_reducible apply Kp.drewN) | (with_reducible refine Kp.setCell ?_ (by first | (dsimp only; omega) | (simp; omega) | (simp; done) | (simp [size_ext_eq]; omega)) _)))).mono ?_)); rintro e w' ⟨rfl, u, rfl⟩))
  exact bodyPost_ret (v := .bool r) (by simp [results, Try.results30, go_sem]) rfl (Ret.mk rfl (by repeat (first | (with_reducible exact Kp.refl _) | (with_reducible assumption) | (with_reducible apply Kp.ext) | (with_reducible apply Kp.alloc) | (with_reducible apply Kp.drew) | (with_reducible apply Kp.drewN) | (with_reducible refine Kp.setCell ?_ (by first | (dsimp only; omega) | (simp; omega) | (simp; done) | (simp [size_ext_eq]; omega)) _))))
set_option maxRecDepth 100000 in
set_option maxHeartbeats 1000000 in
theorem same_MultiPolygon (x y : Value) (r : Bool) (w : World) (h : ∀ w', Kp w w' → Calls Try.prog 54 #[x, y] w' (Ret w' (.bool r))) : Calls Try.prog 30 #[.iface 67 x, .iface 67 y] w (Ret w (.bool r)) := by
  have H := Lib.hid h
  clear h
  have t_Point := tas_MultiPolygon_Point
  have t_MultiPoint := tas_MultiPolygon_MultiPoint
  have t_LineString := tas_MultiPolygon_LineString
  have t_MultiLineString := tas_MultiPolygon_MultiLineString
  have t_Ring := tas_MultiPolygon_Ring
  have t_Polygon := tas_MultiPolygon_Polygon
  have t_MultiPolygon := tas_MultiPolygon_MultiPolygon
  have t_one := tas1_MultiPolygon
  go_enter Try.func30, Try.ntmps30
  go_wp2_with (first | (go_at_call 118; (first | (with_reducible refine (Ret.at_ext (gt_MultiPolygon _ _)).mono ?_) | (with_reducible refine (gt_MultiPolygon _ _).mono ?_)); rintro e w' ⟨rfl, u, rfl⟩) | (go_at_call 54; (first | (with_reducible refine (Ret.at_ext (H.out _ (by repeat (first | (with_reducible exact Kp.refl _) | (with_reducible assumption) | (with_reducible apply Kp.ext) | (with_reducible apply Kp.alloc) | (with_reducible apply Kp.drew) | (with_reducible apply Kp.drewN) | (with_reducible refine Kp.setCell ?_ (by first | (dsimp only; omega) | (simp; omega) | (simp; done) | (simp [size_ext_eq]; omega)) _))))).mono ?_) | (with_reducible refine (H.out _ (by repeat (first | (with_reducible exact Kp.refl _) | (with_reducible assumption) | (with_reducible apply Kp.ext) | (with_reducible apply Kp.alloc) | (with_reducible apply Kp.drew) | (with_reducible apply Kp.drewN) | (with_reducible refine Kp.setCell ?_ (by first | (dsimp only; omega) | (simp; omega) | (simp; done) | (simp [size_ext_eq]; omega)) _)))).mono ?_)); rintro e w' ⟨rfl, u, rfl⟩))
  exact bodyPost_ret (v := .bool r) (by simp [results, Try.results30, go_sem]) rfl (Ret.mk rfl (by repeat (first | (with_reducible exact Kp.refl _) | (with_reducible assumption) | (with_reducible apply Kp.ext) | (with_reducible apply Kp.alloc) | (with_reducible apply Kp.drew) | (with_reducible apply Kp.drewN) | (with_reducible refine Kp.setCell ?_ (by first | (dsimp only; omega) | (simp; omega) | (simp; done) | (simp [size_ext_eq]; omega)) _))))
set_option maxRecDepth 100000 in
set_option maxHeartbeats 1000000 in
theorem same_Collection (x y : Value) (r : Bool) (w : World) (h : ∀ w', Kp w w' → Calls Try.prog 55 #[x, y] w' (Ret w' (.bool r))) : Calls Try.prog 30 #[.iface 69 x, .iface 69 y] w (Ret w (.bool r)) := by
  have H := Lib.hid h
  clear h
  have t_Point := tas_Collection_Point
  have t_MultiPoint := tas_Collection_MultiPoint
  have t_LineString := tas_Collection_LineString
  have t_MultiLineString := tas_Collection_MultiLineString
  have t_Ring := tas_Collection_Ring
  have t_Polygon := tas_Collection_Polygon
  have t_MultiPolygon := tas_Collection_MultiPolygon
  have t_Collection := tas_Collection_Collection
  have t_one := tas1_Collection
  go_enter Try.func30, Try.ntmps30
  go_wp2_with (first | (go_at_call 122; (first | (with_reducible refine (Ret.at_ext (gt_Collection _ _)).mono ?_) | (with_reducible refine (gt_Collection _ _).mono ?_)); rintro e w' ⟨rfl, u, rfl⟩) | (go_at_call 55; (first | (with_reducible refine (Ret.at_ext (H.out _ (by repeat (first | (with_reducible exact Kp.refl _) | (with_reducible assumption) | (with_reducible apply Kp.ext) | (with_reducible apply Kp.alloc) | (with_reducible apply Kp.drew) | (with_reducible apply Kp.drewN) | (with_reducible refine Kp.setCell ?_ (by first | (dsimp only; omega) | (simp; omega) | (simp; done) | (simp [size_ext_eq]; omega)) _))))).mono ?_) | (with_reducible refine (H.out _ (by repeat (first | (with_reducible exact Kp.refl _) | (with_reducible assumption) | (with_reducible apply Kp.ext) | (with_reducible apply Kp.alloc) | (with_reducible apply Kp.drew) | (with_reducible apply Kp.drewN) | (with_reducible refine Kp.setCell ?_ (by first | (dsimp only; omega) | (simp; omega) | (simp; done) | (simp [size_ext_eq]; omega)) _)))).mono ?_)); rintro e w' ⟨rfl, u, rfl⟩))
  exact bodyPost_ret (v := .bool r) (by simp [results, Try.results30, go_sem]) rfl (Ret.mk rfl (by repeat (first | (with_reducible exact Kp.refl _) | (with_reducible assumption) | (with_reducible apply Kp.ext) | (with_reducible apply Kp.alloc) | (with_reducible apply Kp.drew) | (with_reducible apply Kp.drewN) | (with_reducible refine Kp.setCell ?_ (by first | (dsimp only; omega) | (simp; omega) | (simp; done) | (simp [size_ext_eq]; omega)) _))))
end Go.Proofs.Ytciaeknfgdckbaa
