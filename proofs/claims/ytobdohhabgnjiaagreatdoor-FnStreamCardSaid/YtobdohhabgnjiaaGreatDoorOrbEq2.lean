/-
  orb.Equal of two geometries.
-/
import Derived.Test.YtobdohhabgnjiaaGreatDoorOrbEq
set_option linter.all false
namespace Go.Proofs.YtobdohhabgnjiaaGreatDoor
open PubFl Go.RowKit

attribute [local go_sem] cell_ext frozen_ext ext_setCell cell_store size_ext_eq lt_p0 lt_p1 lt_p2 lt_p3 lt_p4 lt_p5 lt_p6 lt_p7 lt_p8 lt_p9 lt_p10 lt_p11 lt_p12 lt_p13 lt_p14 lt_p15 lt_p16 lt_p17 lt_p18 lt_p19 lt_p20 lt_p21 lt_p22 lt_p23 lt_p24 lt_p25 lt_p26 lt_p27 lt_p28 lt_p29 lt_p30 lt_p31 lt_p32 lt_q1 lt_q2 lt_q3 lt_q4 lt_q5 lt_q6 lt_q7 lt_q8 lt_q9 lt_q10 lt_q11 lt_q12 lt_q13 lt_q14 lt_q15 lt_q16 lt_q17 lt_q18 lt_q19 lt_q20 lt_q21 lt_q22 lt_q23 lt_q24 lt_q25 lt_q26 lt_q27 lt_q28 lt_q29 lt_q30 lt_q31 lt_q32 run_fop run_store_float
attribute [local go_sem high] cmp_eql cmp_neq cmp_lss cmp_leq cmp_gtr cmp_geq

theorem tas_Point_Point (x y : Nat) (w : World) : (Instr.typeAssert (.iface 88 (.agg #[.float .f64 x, .float .f64 y])) 52 88 true).run Tryz.prog w = .ok (.tuple #[.agg #[.float .f64 x, .float .f64 y], .bool true]) w := by kernel_rfl
theorem tas_Point_MultiPoint (x y : Nat) (w : World) : (Instr.typeAssert (.iface 88 (.agg #[.float .f64 x, .float .f64 y])) 52 95 true).run Tryz.prog w = .ok (.tuple #[.slice none 0 0, .bool false]) w := by kernel_rfl
theorem tas_Point_LineString (x y : Nat) (w : World) : (Instr.typeAssert (.iface 88 (.agg #[.float .f64 x, .float .f64 y])) 52 91 true).run Tryz.prog w = .ok (.tuple #[.slice none 0 0, .bool false]) w := by kernel_rfl
theorem tas_Point_MultiLineString (x y : Nat) (w : World) : (Instr.typeAssert (.iface 88 (.agg #[.float .f64 x, .float .f64 y])) 52 97 true).run Tryz.prog w = .ok (.tuple #[.slice none 0 0, .bool false]) w := by kernel_rfl
theorem tas_Point_Ring (x y : Nat) (w : World) : (Instr.typeAssert (.iface 88 (.agg #[.float .f64 x, .float .f64 y])) 52 126 true).run Tryz.prog w = .ok (.tuple #[.slice none 0 0, .bool false]) w := by kernel_rfl
theorem tas_Point_Polygon (x y : Nat) (w : World) : (Instr.typeAssert (.iface 88 (.agg #[.float .f64 x, .float .f64 y])) 52 93 true).run Tryz.prog w = .ok (.tuple #[.slice none 0 0, .bool false]) w := by kernel_rfl
theorem tas_Point_MultiPolygon (x y : Nat) (w : World) : (Instr.typeAssert (.iface 88 (.agg #[.float .f64 x, .float .f64 y])) 52 99 true).run Tryz.prog w = .ok (.tuple #[.slice none 0 0, .bool false]) w := by kernel_rfl
theorem tas_Point_Collection (x y : Nat) (w : World) : (Instr.typeAssert (.iface 88 (.agg #[.float .f64 x, .float .f64 y])) 52 101 true).run Tryz.prog w = .ok (.tuple #[.slice none 0 0, .bool false]) w := by kernel_rfl
theorem tas_LineString_Point (v : Value) (w : World) : (Instr.typeAssert (.iface 91 v) 52 88 true).run Tryz.prog w = .ok (.tuple #[.agg #[.float .f64 0, .float .f64 0], .bool false]) w := by kernel_rfl
theorem tas_LineString_MultiPoint (v : Value) (w : World) : (Instr.typeAssert (.iface 91 v) 52 95 true).run Tryz.prog w = .ok (.tuple #[.slice none 0 0, .bool false]) w := by kernel_rfl
theorem tas_LineString_LineString (v : Value) (w : World) : (Instr.typeAssert (.iface 91 v) 52 91 true).run Tryz.prog w = .ok (.tuple #[v, .bool true]) w := by kernel_rfl
theorem tas_Polygon_Point (v : Value) (w : World) : (Instr.typeAssert (.iface 93 v) 52 88 true).run Tryz.prog w = .ok (.tuple #[.agg #[.float .f64 0, .float .f64 0], .bool false]) w := by kernel_rfl
theorem tas_Polygon_MultiPoint (v : Value) (w : World) : (Instr.typeAssert (.iface 93 v) 52 95 true).run Tryz.prog w = .ok (.tuple #[.slice none 0 0, .bool false]) w := by kernel_rfl
theorem tas_Polygon_LineString (v : Value) (w : World) : (Instr.typeAssert (.iface 93 v) 52 91 true).run Tryz.prog w = .ok (.tuple #[.slice none 0 0, .bool false]) w := by kernel_rfl
theorem tas_Polygon_MultiLineString (v : Value) (w : World) : (Instr.typeAssert (.iface 93 v) 52 97 true).run Tryz.prog w = .ok (.tuple #[.slice none 0 0, .bool false]) w := by kernel_rfl
theorem tas_Polygon_Polygon (v : Value) (w : World) : (Instr.typeAssert (.iface 93 v) 52 93 true).run Tryz.prog w = .ok (.tuple #[v, .bool true]) w := by kernel_rfl
theorem tas_MultiPoint_Point (v : Value) (w : World) : (Instr.typeAssert (.iface 95 v) 52 88 true).run Tryz.prog w = .ok (.tuple #[.agg #[.float .f64 0, .float .f64 0], .bool false]) w := by kernel_rfl
theorem tas_MultiPoint_MultiPoint (v : Value) (w : World) : (Instr.typeAssert (.iface 95 v) 52 95 true).run Tryz.prog w = .ok (.tuple #[v, .bool true]) w := by kernel_rfl
theorem tas_MultiPoint_LineString (v : Value) (w : World) : (Instr.typeAssert (.iface 95 v) 52 91 true).run Tryz.prog w = .ok (.tuple #[.slice none 0 0, .bool false]) w := by kernel_rfl
theorem tas_MultiPoint_Polygon (v : Value) (w : World) : (Instr.typeAssert (.iface 95 v) 52 93 true).run Tryz.prog w = .ok (.tuple #[.slice none 0 0, .bool false]) w := by kernel_rfl
theorem tas_MultiLineString_Point (v : Value) (w : World) : (Instr.typeAssert (.iface 97 v) 52 88 true).run Tryz.prog w = .ok (.tuple #[.agg #[.float .f64 0, .float .f64 0], .bool false]) w := by kernel_rfl
theorem tas_MultiLineString_MultiPoint (v : Value) (w : World) : (Instr.typeAssert (.iface 97 v) 52 95 true).run Tryz.prog w = .ok (.tuple #[.slice none 0 0, .bool false]) w := by kernel_rfl
theorem tas_MultiLineString_LineString (v : Value) (w : World) : (Instr.typeAssert (.iface 97 v) 52 91 true).run Tryz.prog w = .ok (.tuple #[.slice none 0 0, .bool false]) w := by kernel_rfl
theorem tas_MultiLineString_MultiLineString (v : Value) (w : World) : (Instr.typeAssert (.iface 97 v) 52 97 true).run Tryz.prog w = .ok (.tuple #[v, .bool true]) w := by kernel_rfl
theorem tas_MultiLineString_Polygon (v : Value) (w : World) : (Instr.typeAssert (.iface 97 v) 52 93 true).run Tryz.prog w = .ok (.tuple #[.slice none 0 0, .bool false]) w := by kernel_rfl
theorem tas_MultiPolygon_Point (v : Value) (w : World) : (Instr.typeAssert (.iface 99 v) 52 88 true).run Tryz.prog w = .ok (.tuple #[.agg #[.float .f64 0, .float .f64 0], .bool false]) w := by kernel_rfl
theorem tas_MultiPolygon_MultiPoint (v : Value) (w : World) : (Instr.typeAssert (.iface 99 v) 52 95 true).run Tryz.prog w = .ok (.tuple #[.slice none 0 0, .bool false]) w := by kernel_rfl
theorem tas_MultiPolygon_LineString (v : Value) (w : World) : (Instr.typeAssert (.iface 99 v) 52 91 true).run Tryz.prog w = .ok (.tuple #[.slice none 0 0, .bool false]) w := by kernel_rfl
theorem tas_MultiPolygon_MultiLineString (v : Value) (w : World) : (Instr.typeAssert (.iface 99 v) 52 97 true).run Tryz.prog w = .ok (.tuple #[.slice none 0 0, .bool false]) w := by kernel_rfl
theorem tas_MultiPolygon_Polygon (v : Value) (w : World) : (Instr.typeAssert (.iface 99 v) 52 93 true).run Tryz.prog w = .ok (.tuple #[.slice none 0 0, .bool false]) w := by kernel_rfl
theorem tas_MultiPolygon_MultiPolygon (v : Value) (w : World) : (Instr.typeAssert (.iface 99 v) 52 99 true).run Tryz.prog w = .ok (.tuple #[v, .bool true]) w := by kernel_rfl
theorem tas_Collection_Point (v : Value) (w : World) : (Instr.typeAssert (.iface 101 v) 52 88 true).run Tryz.prog w = .ok (.tuple #[.agg #[.float .f64 0, .float .f64 0], .bool false]) w := by kernel_rfl
theorem tas_Collection_MultiPoint (v : Value) (w : World) : (Instr.typeAssert (.iface 101 v) 52 95 true).run Tryz.prog w = .ok (.tuple #[.slice none 0 0, .bool false]) w := by kernel_rfl
theorem tas_Collection_LineString (v : Value) (w : World) : (Instr.typeAssert (.iface 101 v) 52 91 true).run Tryz.prog w = .ok (.tuple #[.slice none 0 0, .bool false]) w := by kernel_rfl
theorem tas_Collection_MultiLineString (v : Value) (w : World) : (Instr.typeAssert (.iface 101 v) 52 97 true).run Tryz.prog w = .ok (.tuple #[.slice none 0 0, .bool false]) w := by kernel_rfl
theorem tas_Collection_Polygon (v : Value) (w : World) : (Instr.typeAssert (.iface 101 v) 52 93 true).run Tryz.prog w = .ok (.tuple #[.slice none 0 0, .bool false]) w := by kernel_rfl
theorem tas_Collection_MultiPolygon (v : Value) (w : World) : (Instr.typeAssert (.iface 101 v) 52 99 true).run Tryz.prog w = .ok (.tuple #[.slice none 0 0, .bool false]) w := by kernel_rfl
theorem tas_Collection_Collection (v : Value) (w : World) : (Instr.typeAssert (.iface 101 v) 52 101 true).run Tryz.prog w = .ok (.tuple #[v, .bool true]) w := by kernel_rfl
end Go.Proofs.YtobdohhabgnjiaaGreatDoor
