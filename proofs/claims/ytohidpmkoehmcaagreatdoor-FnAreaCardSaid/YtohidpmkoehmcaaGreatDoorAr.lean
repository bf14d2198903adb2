/-
  planar.CentroidArea and planar.Area by kinds (printed by gen_ar.py).
-/
import Derived.Test.YtohidpmkoehmcaaGreatDoorMpa
set_option linter.all false
namespace Go.Proofs.YtohidpmkoehmcaaGreatDoor
open PubFl Go.RowKit

attribute [local go_sem] cell_ext frozen_ext ext_setCell cell_store size_ext_eq lt_p0 lt_p1 lt_p2 lt_p3 lt_p4 lt_p5 lt_p6 lt_p7 lt_p8 lt_p9 lt_p10 lt_p11 lt_p12 lt_p13 lt_p14 lt_p15 lt_p16 lt_p17 lt_p18 lt_p19 lt_p20 lt_p21 lt_p22 lt_p23 lt_p24 lt_p25 lt_p26 lt_p27 lt_p28 lt_p29 lt_p30 lt_p31 lt_p32 lt_q1 lt_q2 lt_q3 lt_q4 lt_q5 lt_q6 lt_q7 lt_q8 lt_q9 lt_q10 lt_q11 lt_q12 lt_q13 lt_q14 lt_q15 lt_q16 lt_q17 lt_q18 lt_q19 lt_q20 lt_q21 lt_q22 lt_q23 lt_q24 lt_q25 lt_q26 lt_q27 lt_q28 lt_q29 lt_q30 lt_q31 lt_q32 run_fop run_store_float
attribute [local go_sem high] cmp_eql cmp_neq cmp_lss cmp_leq cmp_gtr cmp_geq

/-- an area: half of this number -/
def AreaV (w : World) (A : Int) (e : Ending) (w' : World) : Prop := ∃ a : Nat, e = .returned (.float .f64 a) ∧ IsV a (half A) ∧ ∃ u, w' = ext w u

theorem tar_MultiPoint_Point (v : Value) (w : World) : (Instr.typeAssert (.iface 63 v) 41 57 true).run Tryz.prog w = .ok (.tuple #[.agg #[.float .f64 0, .float .f64 0], .bool false]) w := by kernel_rfl
theorem tar_MultiPoint_MultiPoint (v : Value) (w : World) : (Instr.typeAssert (.iface 63 v) 41 63 true).run Tryz.prog w = .ok (.tuple #[v, .bool true]) w := by kernel_rfl
theorem tar_LineString_Point (v : Value) (w : World) : (Instr.typeAssert (.iface 59 v) 41 57 true).run Tryz.prog w = .ok (.tuple #[.agg #[.float .f64 0, .float .f64 0], .bool false]) w := by kernel_rfl
theorem tar_LineString_MultiPoint (v : Value) (w : World) : (Instr.typeAssert (.iface 59 v) 41 63 true).run Tryz.prog w = .ok (.tuple #[.slice none 0 0, .bool false]) w := by kernel_rfl
theorem tar_LineString_LineString (v : Value) (w : World) : (Instr.typeAssert (.iface 59 v) 41 59 true).run Tryz.prog w = .ok (.tuple #[v, .bool true]) w := by kernel_rfl
theorem tar_Polygon_Point (v : Value) (w : World) : (Instr.typeAssert (.iface 61 v) 41 57 true).run Tryz.prog w = .ok (.tuple #[.agg #[.float .f64 0, .float .f64 0], .bool false]) w := by kernel_rfl
theorem tar_Polygon_MultiPoint (v : Value) (w : World) : (Instr.typeAssert (.iface 61 v) 41 63 true).run Tryz.prog w = .ok (.tuple #[.slice none 0 0, .bool false]) w := by kernel_rfl
theorem tar_Polygon_LineString (v : Value) (w : World) : (Instr.typeAssert (.iface 61 v) 41 59 true).run Tryz.prog w = .ok (.tuple #[.slice none 0 0, .bool false]) w := by kernel_rfl
theorem tar_Polygon_MultiLineString (v : Value) (w : World) : (Instr.typeAssert (.iface 61 v) 41 65 true).run Tryz.prog w = .ok (.tuple #[.slice none 0 0, .bool false]) w := by kernel_rfl
theorem tar_Polygon_Ring (v : Value) (w : World) : (Instr.typeAssert (.iface 61 v) 41 53 true).run Tryz.prog w = .ok (.tuple #[.slice none 0 0, .bool false]) w := by kernel_rfl
theorem tar_Polygon_Polygon (v : Value) (w : World) : (Instr.typeAssert (.iface 61 v) 41 61 true).run Tryz.prog w = .ok (.tuple #[v, .bool true]) w := by kernel_rfl
theorem tar_MultiPolygon_Point (v : Value) (w : World) : (Instr.typeAssert (.iface 67 v) 41 57 true).run Tryz.prog w = .ok (.tuple #[.agg #[.float .f64 0, .float .f64 0], .bool false]) w := by kernel_rfl
theorem tar_MultiPolygon_MultiPoint (v : Value) (w : World) : (Instr.typeAssert (.iface 67 v) 41 63 true).run Tryz.prog w = .ok (.tuple #[.slice none 0 0, .bool false]) w := by kernel_rfl
theorem tar_MultiPolygon_LineString (v : Value) (w : World) : (Instr.typeAssert (.iface 67 v) 41 59 true).run Tryz.prog w = .ok (.tuple #[.slice none 0 0, .bool false]) w := by kernel_rfl
theorem tar_MultiPolygon_MultiLineString (v : Value) (w : World) : (Instr.typeAssert (.iface 67 v) 41 65 true).run Tryz.prog w = .ok (.tuple #[.slice none 0 0, .bool false]) w := by kernel_rfl
theorem tar_MultiPolygon_Ring (v : Value) (w : World) : (Instr.typeAssert (.iface 67 v) 41 53 true).run Tryz.prog w = .ok (.tuple #[.slice none 0 0, .bool false]) w := by kernel_rfl
theorem tar_MultiPolygon_Polygon (v : Value) (w : World) : (Instr.typeAssert (.iface 67 v) 41 61 true).run Tryz.prog w = .ok (.tuple #[.slice none 0 0, .bool false]) w := by kernel_rfl
theorem tar_MultiPolygon_MultiPolygon (v : Value) (w : World) : (Instr.typeAssert (.iface 67 v) 41 67 true).run Tryz.prog w = .ok (.tuple #[v, .bool true]) w := by kernel_rfl
theorem new_lt' {W : World} {o : Obj} {n : Nat} (h : n = W.heap.size) : n < (W.alloc o).heap.size := by subst h; simp
theorem new_cell' {W : World} {c : Array Value} {T : TypeId} {n i : Nat} {v : Value} (h : n = W.heap.size) (hv : c[i]? = some v) : (W.alloc (.cells c T)).cell? ⟨n, i, none⟩ = some v := by
  subst h
  simp [hv]
set_option maxRecDepth 100000 in
set_option maxHeartbeats 1000000 in
theorem cenPolygon_c (v : Value) (A : Int) (w : World) (hp : ∀ w', Kp w w' → Calls Tryz.prog 42 #[v] w' (PolRet w' A)) :
    Calls Tryz.prog 30 #[.iface 61 v] w (ArRet w A) := by
  have Hp := Lib.hid hp
  clear hp
  have t0 := tar_Polygon_Point
  have t1 := tar_Polygon_MultiPoint
  have t2 := tar_Polygon_LineString
  have t3 := tar_Polygon_MultiLineString
  have t4 := tar_Polygon_Ring
  have t5 := tar_Polygon_Polygon
  go_enter Tryz.func30, Tryz.ntmps30
  go_wp2_with (go_at_call 42; (with_reducible refine (Hp.out _ (by repeat (first | (with_reducible exact Kp.refl _) | (with_reducible assumption) | (with_reducible apply Kp.ext) | (with_reducible apply Kp.alloc) | (with_reducible apply Kp.drew) | (with_reducible apply Kp.drewN) | (with_reducible refine Kp.setCell ?_ (by first | (dsimp only; omega) | (simp; omega) | (simp; done) | (simp [size_ext_eq]; omega)) _)))).mono ?_); rintro e w1 ⟨cx, cy, a, rfl, _, _, hv, u, rfl⟩; have Hv := Lib.hid hv; clear hv)
  refine bodyPost_ret (v := .tuple #[.agg #[.float .f64 cx, .float .f64 cy], .float .f64 a]) (by simp [results, Tryz.results30, go_sem]) rfl ?_
  exact ⟨cx, cy, _, rfl, Hv.out, _, ext_of (show Kp w _ from (by repeat (first | (with_reducible exact Kp.refl _) | (with_reducible assumption) | (with_reducible apply Kp.ext) | (with_reducible apply Kp.alloc) | (with_reducible apply Kp.drew) | (with_reducible apply Kp.drewN) | (with_reducible refine Kp.setCell ?_ (by first | (dsimp only; omega) | (simp; omega) | (simp; done) | (simp [size_ext_eq]; omega)) _))))⟩
theorem arPolygon_c (v : Value) (A : Int) (w : World) (hp : ∀ w', Kp w w' → Calls Tryz.prog 42 #[v] w' (PolRet w' A)) :
    Calls Tryz.prog 18 #[.iface 61 v] w (AreaV w A) := by
  have hc := Lib.hid (cenPolygon_c v A w hp)
  clear hp
  go_enter Tryz.func18, Tryz.ntmps18
  go_wp2_with (go_at_call 30; (with_reducible refine hc.out.mono ?_); rintro e w1 ⟨cx, cy, a, rfl, hv, u, rfl⟩; have Hv := Lib.hid hv; clear hv)
  go_ret
  exact ⟨a, rfl, Hv.out, _, ext_of (show Kp w _ from (by repeat (first | (with_reducible exact Kp.refl _) | (with_reducible assumption) | (with_reducible apply Kp.ext) | (with_reducible apply Kp.alloc) | (with_reducible apply Kp.drew) | (with_reducible apply Kp.drewN) | (with_reducible refine Kp.setCell ?_ (by first | (dsimp only; omega) | (simp; omega) | (simp; done) | (simp [size_ext_eq]; omega)) _))))⟩

set_option maxRecDepth 100000 in
set_option maxHeartbeats 1000000 in
theorem cenMultiPolygon_c (v : Value) (A : Int) (w : World) (hp : ∀ w', Kp w w' → Calls Tryz.prog 43 #[v] w' (ArRet w' A)) :
    Calls Tryz.prog 30 #[.iface 67 v] w (ArRet w A) := by
  have Hp := Lib.hid hp
  clear hp
  have t0 := tar_MultiPolygon_Point
  have t1 := tar_MultiPolygon_MultiPoint
  have t2 := tar_MultiPolygon_LineString
  have t3 := tar_MultiPolygon_MultiLineString
  have t4 := tar_MultiPolygon_Ring
  have t5 := tar_MultiPolygon_Polygon
  have t6 := tar_MultiPolygon_MultiPolygon
  go_enter Tryz.func30, Tryz.ntmps30
  go_wp2_with (go_at_call 43; (with_reducible refine (Hp.out _ (by repeat (first | (with_reducible exact Kp.refl _) | (with_reducible assumption) | (with_reducible apply Kp.ext) | (with_reducible apply Kp.alloc) | (with_reducible apply Kp.drew) | (with_reducible apply Kp.drewN) | (with_reducible refine Kp.setCell ?_ (by first | (dsimp only; omega) | (simp; omega) | (simp; done) | (simp [size_ext_eq]; omega)) _)))).mono ?_); rintro e w1 ⟨cx, cy, a, rfl, hv, u, rfl⟩; have Hv := Lib.hid hv; clear hv)
  refine bodyPost_ret (v := .tuple #[.agg #[.float .f64 cx, .float .f64 cy], .float .f64 a]) (by simp [results, Tryz.results30, go_sem]) rfl ?_
  exact ⟨cx, cy, _, rfl, Hv.out, _, ext_of (show Kp w _ from (by repeat (first | (with_reducible exact Kp.refl _) | (with_reducible assumption) | (with_reducible apply Kp.ext) | (with_reducible apply Kp.alloc) | (with_reducible apply Kp.drew) | (with_reducible apply Kp.drewN) | (with_reducible refine Kp.setCell ?_ (by first | (dsimp only; omega) | (simp; omega) | (simp; done) | (simp [size_ext_eq]; omega)) _))))⟩
theorem arMultiPolygon_c (v : Value) (A : Int) (w : World) (hp : ∀ w', Kp w w' → Calls Tryz.prog 43 #[v] w' (ArRet w' A)) :
    Calls Tryz.prog 18 #[.iface 67 v] w (AreaV w A) := by
  have hc := Lib.hid (cenMultiPolygon_c v A w hp)
  clear hp
  go_enter Tryz.func18, Tryz.ntmps18
  go_wp2_with (go_at_call 30; (with_reducible refine hc.out.mono ?_); rintro e w1 ⟨cx, cy, a, rfl, hv, u, rfl⟩; have Hv := Lib.hid hv; clear hv)
  go_ret
  exact ⟨a, rfl, Hv.out, _, ext_of (show Kp w _ from (by repeat (first | (with_reducible exact Kp.refl _) | (with_reducible assumption) | (with_reducible apply Kp.ext) | (with_reducible apply Kp.alloc) | (with_reducible apply Kp.drew) | (with_reducible apply Kp.drewN) | (with_reducible refine Kp.setCell ?_ (by first | (dsimp only; omega) | (simp; omega) | (simp; done) | (simp [size_ext_eq]; omega)) _))))⟩

set_option maxRecDepth 100000 in
set_option maxHeartbeats 1000000 in
theorem cenMultiPoint_c (v : Value) (w : World) (hp : ∀ w', Kp w w' → Calls Tryz.prog 39 #[v] w' (PtRet w')) :
    Calls Tryz.prog 30 #[.iface 63 v] w (ArRet w 0) := by
  have Hp := Lib.hid hp
  clear hp
  have t0 := tar_MultiPoint_Point
  have t1 := tar_MultiPoint_MultiPoint
  go_enter Tryz.func30, Tryz.ntmps30
  go_wp2_with (go_at_call 39; (with_reducible refine (Hp.out _ (by repeat (first | (with_reducible exact Kp.refl _) | (with_reducible assumption) | (with_reducible apply Kp.ext) | (with_reducible apply Kp.alloc) | (with_reducible apply Kp.drew) | (with_reducible apply Kp.drewN) | (with_reducible refine Kp.setCell ?_ (by first | (dsimp only; omega) | (simp; omega) | (simp; done) | (simp [size_ext_eq]; omega)) _)))).mono ?_); rintro e w1 ⟨cx, cy, rfl, u, rfl⟩)
  refine bodyPost_ret (v := .tuple #[.agg #[.float .f64 cx, .float .f64 cy], .float .f64 0]) (by simp [results, Tryz.results30, go_sem]) rfl ?_
  exact ⟨cx, cy, _, rfl, half_zero, _, ext_of (show Kp w _ from (by repeat (first | (with_reducible exact Kp.refl _) | (with_reducible assumption) | (with_reducible apply Kp.ext) | (with_reducible apply Kp.alloc) | (with_reducible apply Kp.drew) | (with_reducible apply Kp.drewN) | (with_reducible refine Kp.setCell ?_ (by first | (dsimp only; omega) | (simp; omega) | (simp; done) | (simp [size_ext_eq]; omega)) _))))⟩
theorem arMultiPoint_c (v : Value) (w : World) (hp : ∀ w', Kp w w' → Calls Tryz.prog 39 #[v] w' (PtRet w')) :
    Calls Tryz.prog 18 #[.iface 63 v] w (AreaV w 0) := by
  have hc := Lib.hid (cenMultiPoint_c v w hp)
  clear hp
  go_enter Tryz.func18, Tryz.ntmps18
  go_wp2_with (go_at_call 30; (with_reducible refine hc.out.mono ?_); rintro e w1 ⟨cx, cy, a, rfl, hv, u, rfl⟩; have Hv := Lib.hid hv; clear hv)
  go_ret
  exact ⟨a, rfl, Hv.out, _, ext_of (show Kp w _ from (by repeat (first | (with_reducible exact Kp.refl _) | (with_reducible assumption) | (with_reducible apply Kp.ext) | (with_reducible apply Kp.alloc) | (with_reducible apply Kp.drew) | (with_reducible apply Kp.drewN) | (with_reducible refine Kp.setCell ?_ (by first | (dsimp only; omega) | (simp; omega) | (simp; done) | (simp [size_ext_eq]; omega)) _))))⟩

set_option maxRecDepth 100000 in
set_option maxHeartbeats 1000000 in
theorem cenLineString_c (a : Option Addr) (n c : Nat) (w : World) (hp : ∀ (L : Nat) (w' : World), Kp w w' → L < w'.heap.size → w'.cell? ⟨L, 0, none⟩ = some (.slice a n c) → Calls Tryz.prog 40 #[.slice (some ⟨L, 0, none⟩) 1 1] w' (PtRet w')) :
    Calls Tryz.prog 30 #[.iface 59 (.slice a n c)] w (ArRet w 0) := by
  have Hp := Lib.hid hp
  clear hp
  have t0 := tar_LineString_Point
  have t1 := tar_LineString_MultiPoint
  have t2 := tar_LineString_LineString
  go_enter Tryz.func30, Tryz.ntmps30
  go_wp2_with (go_at_call 40; (with_reducible refine (Hp.out _ _ (by repeat (first | (with_reducible exact Kp.refl _) | (with_reducible assumption) | (with_reducible apply Kp.ext) | (with_reducible apply Kp.alloc) | (with_reducible apply Kp.drew) | (with_reducible apply Kp.drewN) | (with_reducible refine Kp.setCell ?_ (by first | (dsimp only; omega) | (simp; omega) | (simp; done) | (simp [size_ext_eq]; omega)) _))) (new_lt' (by simp [size_ext_eq])) (new_cell' (by simp [size_ext_eq]) rfl)).mono ?_); rintro e w1 ⟨cx, cy, rfl, u, rfl⟩)
  refine bodyPost_ret (v := .tuple #[.agg #[.float .f64 cx, .float .f64 cy], .float .f64 0]) (by simp [results, Tryz.results30, go_sem]) rfl ?_
  exact ⟨cx, cy, _, rfl, half_zero, _, ext_of (show Kp w _ from (by repeat (first | (with_reducible exact Kp.refl _) | (with_reducible assumption) | (with_reducible apply Kp.ext) | (with_reducible apply Kp.alloc) | (with_reducible apply Kp.drew) | (with_reducible apply Kp.drewN) | (with_reducible refine Kp.setCell ?_ (by first | (dsimp only; omega) | (simp; omega) | (simp; done) | (simp [size_ext_eq]; omega)) _))))⟩
theorem arLineString_c (a : Option Addr) (n c : Nat) (w : World) (hp : ∀ (L : Nat) (w' : World), Kp w w' → L < w'.heap.size → w'.cell? ⟨L, 0, none⟩ = some (.slice a n c) → Calls Tryz.prog 40 #[.slice (some ⟨L, 0, none⟩) 1 1] w' (PtRet w')) :
    Calls Tryz.prog 18 #[.iface 59 (.slice a n c)] w (AreaV w 0) := by
  have hc := Lib.hid (cenLineString_c a n c w hp)
  clear hp
  go_enter Tryz.func18, Tryz.ntmps18
  go_wp2_with (go_at_call 30; (with_reducible refine hc.out.mono ?_); rintro e w1 ⟨cx, cy, a, rfl, hv, u, rfl⟩; have Hv := Lib.hid hv; clear hv)
  go_ret
  exact ⟨a, rfl, Hv.out, _, ext_of (show Kp w _ from (by repeat (first | (with_reducible exact Kp.refl _) | (with_reducible assumption) | (with_reducible apply Kp.ext) | (with_reducible apply Kp.alloc) | (with_reducible apply Kp.drew) | (with_reducible apply Kp.drewN) | (with_reducible refine Kp.setCell ?_ (by first | (dsimp only; omega) | (simp; omega) | (simp; done) | (simp [size_ext_eq]; omega)) _))))⟩
end Go.Proofs.YtohidpmkoehmcaaGreatDoor
