/-
  planar.Area of a ring, impl.RingArea.
  The middle of a polygon of one ring: polygonCentroidArea, CentroidArea, impl.Centroid.
-/
import Derived.Test.YtohidpmkoehmcaaGreatDoorArea
import Derived.Test.YtohidpmkoehmcaaGreatDoorMG8
set_option linter.all false
namespace Go.Proofs.YtohidpmkoehmcaaGreatDoor
open PubFl Go.RowKit

attribute [local go_sem] cell_ext frozen_ext ext_setCell cell_store size_ext_eq lt_p0 lt_p1 lt_p2 lt_p3 lt_p4 lt_p5 lt_p6 lt_p7 lt_p8 lt_p9 lt_p10 lt_p11 lt_p12 lt_p13 lt_p14 lt_p15 lt_p16 lt_p17 lt_p18 lt_p19 lt_p20 lt_p21 lt_p22 lt_p23 lt_p24 lt_p25 lt_p26 lt_p27 lt_p28 lt_p29 lt_p30 lt_p31 lt_p32 lt_q1 lt_q2 lt_q3 lt_q4 lt_q5 lt_q6 lt_q7 lt_q8 lt_q9 lt_q10 lt_q11 lt_q12 lt_q13 lt_q14 lt_q15 lt_q16 lt_q17 lt_q18 lt_q19 lt_q20 lt_q21 lt_q22 lt_q23 lt_q24 lt_q25 lt_q26 lt_q27 lt_q28 lt_q29 lt_q30 lt_q31 lt_q32 run_fop run_store_float
attribute [local go_sem high] cmp_eql cmp_neq cmp_lss cmp_leq cmp_gtr cmp_geq

theorem ta_ring_Point (v : Value) (w : World) : (Instr.typeAssert (.iface 53 v) 41 57 true).run Tryz.prog w = .ok (.tuple #[.agg #[.float .f64 0, .float .f64 0], .bool false]) w := by kernel_rfl
theorem ta_ring_MultiPoint (v : Value) (w : World) : (Instr.typeAssert (.iface 53 v) 41 63 true).run Tryz.prog w = .ok (.tuple #[.slice none 0 0, .bool false]) w := by kernel_rfl
theorem ta_ring_LineString (v : Value) (w : World) : (Instr.typeAssert (.iface 53 v) 41 59 true).run Tryz.prog w = .ok (.tuple #[.slice none 0 0, .bool false]) w := by kernel_rfl
theorem ta_ring_MultiLineString (v : Value) (w : World) : (Instr.typeAssert (.iface 53 v) 41 65 true).run Tryz.prog w = .ok (.tuple #[.slice none 0 0, .bool false]) w := by kernel_rfl
theorem ta_ring_Ring (v : Value) (w : World) : (Instr.typeAssert (.iface 53 v) 41 53 true).run Tryz.prog w = .ok (.tuple #[v, .bool true]) w := by kernel_rfl

set_option maxRecDepth 100000 in
set_option maxHeartbeats 2000000 in
theorem centroidRing_c (b off cap : Nat) (ps : List (Nat × Nat)) (hn : ps.length ≤ 1000) (hpos : 2 ≤ ps.length) (w : World) (hb : b < w.heap.size) (hpt : PtsAt w b off ps) (x y : Nat → Int) (hi : IntPts ps x y)
    (s0 : Nat) (v0 : IsV s0 ((sumTo (offT x y) (ps.length - 2) : Int) * (2 : Rat) ^ (-(1 : Int)))) (z0 : sumTo (offT x y) (ps.length - 2) = 0 → s0 = 0) :
    Calls Tryz.prog 30 #[.iface 53 (.slice (some ⟨b, off, none⟩) ps.length cap)] w (AreaRet w s0) := by
  have hc := Lib.hid (fun w' (hk : Kp w w') => ringCentroid_c b off cap ps hn hpos w' (Nat.lt_of_lt_of_le hb hk.size) (hpt.kp hb hk) x y hi s0 v0 z0)
  clear hpt v0 z0 hi
  have t1 := ta_ring_Point
  have t2 := ta_ring_MultiPoint
  have t3 := ta_ring_LineString
  have t4 := ta_ring_MultiLineString
  have t5 := ta_ring_Ring
  go_enter Tryz.func30, Tryz.ntmps30
  go_wp2_with (go_at_call 41; refine (hc.out _ (by repeat (first | (with_reducible exact Kp.refl _) | (with_reducible assumption) | (with_reducible apply Kp.ext) | (with_reducible apply Kp.alloc) | (with_reducible apply Kp.drew) | (with_reducible apply Kp.drewN) | (with_reducible refine Kp.setCell ?_ (by first | (dsimp only; omega) | (simp; omega) | (simp; done) | (simp [size_ext_eq]; omega)) _)))).mono ?_; rintro e w1 ⟨cx, cy, rfl, u, rfl⟩)
  exact bodyPost_ret (v := .tuple #[.agg #[.float .f64 cx, .float .f64 cy], .float .f64 s0]) (by simp [results, Tryz.results30, go_sem]) rfl ⟨cx, cy, rfl, _, ext_of (show Kp w _ from (by repeat (first | (with_reducible exact Kp.refl _) | (with_reducible assumption) | (with_reducible apply Kp.ext) | (with_reducible apply Kp.alloc) | (with_reducible apply Kp.drew) | (with_reducible apply Kp.drewN) | (with_reducible refine Kp.setCell ?_ (by first | (dsimp only; omega) | (simp; omega) | (simp; done) | (simp [size_ext_eq]; omega)) _))))⟩

/-- the area of a ring, in this word -/
structure AreaIs (ps : List (Nat × Nat)) (x y : Nat → Int) (s0 : Nat) : Prop where
  v : IsV s0 ((sumTo (offT x y) (ps.length - 2) : Int) * (2 : Rat) ^ (-(1 : Int)))
  z : sumTo (offT x y) (ps.length - 2) = 0 → s0 = 0

theorem area_c (b off cap : Nat) (ps : List (Nat × Nat)) (hn : ps.length ≤ 1000) (hpos : 2 ≤ ps.length) (w : World) (hb : b < w.heap.size) (hpt : PtsAt w b off ps) (x y : Nat → Int) (hi : IntPts ps x y) (s0 : Nat) (hs : AreaIs ps x y s0) :
    Calls Tryz.prog 18 #[.iface 53 (.slice (some ⟨b, off, none⟩) ps.length cap)] w (Ret w (.float .f64 s0)) := by
  obtain ⟨v0, z0⟩ := hs
  have hc := Lib.hid (centroidRing_c b off cap ps hn hpos w hb hpt x y hi s0 v0 z0)
  clear hpt v0 z0 hi
  go_enter Tryz.func18, Tryz.ntmps18
  go_wp2_with (go_at_call 30; refine hc.out.mono ?_; rintro e w1 ⟨cx, cy, rfl, u, rfl⟩)
  go_ret
  exact Ret.mk rfl (by repeat (first | (with_reducible exact Kp.refl _) | (with_reducible assumption) | (with_reducible apply Kp.ext) | (with_reducible apply Kp.alloc) | (with_reducible apply Kp.drew) | (with_reducible apply Kp.drewN) | (with_reducible refine Kp.setCell ?_ (by first | (dsimp only; omega) | (simp; omega) | (simp; done) | (simp [size_ext_eq]; omega)) _)))

theorem ringArea_c (a : Option Addr) (cap : Nat) (ps : List (Nat × Nat)) (hn : ps.length ≤ 1000) (hpos : 2 ≤ ps.length) (w : World) (hs : PtsIn w a ps) (x y : Nat → Int) (hi : IntPts ps x y) (s0 : Nat) (h0 : AreaIs ps x y s0) :
    Calls Tryz.prog 14 #[.slice a ps.length cap] w (Ret w (.float .f64 s0)) := by
  have hn' : ps.length ≤ 2147483647 := by omega
  go_enter Tryz.func14, Tryz.ntmps14
  go_wp2_with (go_at_call 26; refine (pointsOf_c _ _ _ hn' _ hs).mono ?_; rintro e w1 ⟨v, u, rfl, hu, hp⟩)
  have hk1 : Kp w w1 := by rw [hu]; exact (by repeat (first | (with_reducible exact Kp.refl _) | (with_reducible assumption) | (with_reducible apply Kp.ext) | (with_reducible apply Kp.alloc) | (with_reducible apply Kp.drew) | (with_reducible apply Kp.drewN) | (with_reducible refine Kp.setCell ?_ (by first | (dsimp only; omega) | (simp; omega) | (simp; done) | (simp [size_ext_eq]; omega)) _)))
  rw [← hu]
  clear hu
  obtain ⟨g, cap', rfl, hg1, hg2, _, _, hpt⟩ := hp.form (by omega)
  have hc := Lib.hid (area_c g 0 cap' ps hn hpos w1 hg2 hpt x y hi s0 h0)
  clear hpt hi h0 hp hs
  go_wp2_with (go_at_call 18; (first | (with_reducible refine (Ret.at_ext (hc.out)).mono ?_) | (with_reducible refine (hc.out).mono ?_)); rintro e w' ⟨rfl, u, rfl⟩)
  go_ret
  exact Ret.mk rfl (by repeat (first | (with_reducible exact Kp.refl _) | (with_reducible assumption) | (with_reducible apply Kp.ext) | (with_reducible apply Kp.alloc) | (with_reducible apply Kp.drew) | (with_reducible apply Kp.drewN) | (with_reducible refine Kp.setCell ?_ (by first | (dsimp only; omega) | (simp; omega) | (simp; done) | (simp [size_ext_eq]; omega)) _)))

theorem areaIs_of {ps : List (Nat × Nat)} {x y : Nat → Int} (hn : ps.length ≤ 1000) (hpos : 2 ≤ ps.length) (hi : IntPts ps x y) : ∃ s0, AreaIs ps x y s0 := by
  have hb := sumTo_abs (t := offT x y) (m := 8000000) (n := ps.length - 2) fun i hik => by
    have := offT_bd hi i (by omega)
    unfold offT; omega
  by_cases h : sumTo (offT x y) (ps.length - 2) = 0
  · refine ⟨0, ?_, fun _ => rfl⟩
    rw [h]
    have e : ((0 : Int) : Rat) * (2 : Rat) ^ (-(1 : Int)) = ((0 : Int) : Rat) := by decide +kernel
    rw [e]; exact zero_isV
  · have hv := fl_isV (n := sumTo (offT x y) (ps.length - 2)) (by omega)
    obtain ⟨_, va, _⟩ := area_end hv zero_isV zero_isV zero_isV zero_isV h (by omega) (by omega) (by omega) (by omega) (by omega)
    exact ⟨_, va, fun h0 => absurd h0 h⟩
end Go.Proofs.YtohidpmkoehmcaaGreatDoor

set_option linter.all false
namespace Go.Proofs.YtohidpmkoehmcaaGreatDoor
open PubFl Go.RowKit

attribute [local go_sem] cell_ext frozen_ext ext_setCell cell_store size_ext_eq lt_p0 lt_p1 lt_p2 lt_p3 lt_p4 lt_p5 lt_p6 lt_p7 lt_p8 lt_p9 lt_p10 lt_p11 lt_p12 lt_p13 lt_p14 lt_p15 lt_p16 lt_p17 lt_p18 lt_p19 lt_p20 lt_p21 lt_p22 lt_p23 lt_p24 lt_p25 lt_p26 lt_p27 lt_p28 lt_p29 lt_p30 lt_p31 lt_p32 lt_q1 lt_q2 lt_q3 lt_q4 lt_q5 lt_q6 lt_q7 lt_q8 lt_q9 lt_q10 lt_q11 lt_q12 lt_q13 lt_q14 lt_q15 lt_q16 lt_q17 lt_q18 lt_q19 lt_q20 lt_q21 lt_q22 lt_q23 lt_q24 lt_q25 lt_q26 lt_q27 lt_q28 lt_q29 lt_q30 lt_q31 lt_q32 run_fop run_store_float
attribute [local go_sem high] cmp_eql cmp_neq cmp_lss cmp_leq cmp_gtr cmp_geq

/-- a polygon of one ring: its middle as this says, its area this word -/
def CenRet (w : World) (s0 : Nat) (M : Nat → Nat → Prop) (e : Ending) (w' : World) : Prop := ∃ cx cy : Nat, e = .returned (.tuple #[.agg #[.float .f64 cx, .float .f64 cy], .float .f64 s0]) ∧ M cx cy ∧ ∃ u, w' = ext w u

set_option maxRecDepth 100000 in
set_option maxHeartbeats 1000000 in
theorem polyCen_c (R cap g c : Nat) (n : Nat) (w : World) (hR : R < w.heap.size) (hc : w.cell? ⟨R, 0, none⟩ = some (.slice (some ⟨g, 0, none⟩) n c)) (s0 : Nat) (M : Nat → Nat → Prop)
    (hring : ∀ w', Kp w w' → Calls Tryz.prog 41 #[.slice (some ⟨g, 0, none⟩) n c] w' (AreaRet2 w' s0 M)) (h0 : eqF (absF s0) 0 = false) :
    Calls Tryz.prog 42 #[.slice (some ⟨R, 0, none⟩) 1 cap] w (CenRet w (absF s0) M) := by
  have Hr := Lib.hid hring
  clear hring
  go_enter Tryz.func42, Tryz.ntmps42
  go_wp2_with (first | (go_at_call 41; (with_reducible refine (Hr.out _ (by repeat (first | (with_reducible exact Kp.refl _) | (with_reducible assumption) | (with_reducible apply Kp.ext) | (with_reducible apply Kp.alloc) | (with_reducible apply Kp.drew) | (with_reducible apply Kp.drewN) | (with_reducible refine Kp.setCell ?_ (by first | (dsimp only; omega) | (simp; omega) | (simp; done) | (simp [size_ext_eq]; omega)) _)))).mono ?_); rintro e w1 ⟨cx, cy, rfl, hM, u, rfl⟩; have HM := Lib.hid hM; clear hM) | (go_at_call 12; (first | (with_reducible refine (Ret.at_ext (abs_c _ _)).mono ?_) | (with_reducible refine (abs_c _ _).mono ?_)); rintro e w' ⟨rfl, u, rfl⟩))
  exact bodyPost_ret (v := .tuple #[.agg #[.float .f64 cx, .float .f64 cy], .float .f64 (absF s0)]) (by simp [results, Tryz.results42, go_sem]) rfl ⟨cx, cy, rfl, HM.out, _, ext_of (show Kp w _ from (by repeat (first | (with_reducible exact Kp.refl _) | (with_reducible assumption) | (with_reducible apply Kp.ext) | (with_reducible apply Kp.alloc) | (with_reducible apply Kp.drew) | (with_reducible apply Kp.drewN) | (with_reducible refine Kp.setCell ?_ (by first | (dsimp only; omega) | (simp; omega) | (simp; done) | (simp [size_ext_eq]; omega)) _))))⟩

theorem ta_poly_Point (v : Value) (w : World) : (Instr.typeAssert (.iface 61 v) 41 57 true).run Tryz.prog w = .ok (.tuple #[.agg #[.float .f64 0, .float .f64 0], .bool false]) w := by kernel_rfl
theorem ta_poly_MultiPoint (v : Value) (w : World) : (Instr.typeAssert (.iface 61 v) 41 63 true).run Tryz.prog w = .ok (.tuple #[.slice none 0 0, .bool false]) w := by kernel_rfl
theorem ta_poly_LineString (v : Value) (w : World) : (Instr.typeAssert (.iface 61 v) 41 59 true).run Tryz.prog w = .ok (.tuple #[.slice none 0 0, .bool false]) w := by kernel_rfl
theorem ta_poly_MultiLineString (v : Value) (w : World) : (Instr.typeAssert (.iface 61 v) 41 65 true).run Tryz.prog w = .ok (.tuple #[.slice none 0 0, .bool false]) w := by kernel_rfl
theorem ta_poly_Ring (v : Value) (w : World) : (Instr.typeAssert (.iface 61 v) 41 53 true).run Tryz.prog w = .ok (.tuple #[.slice none 0 0, .bool false]) w := by kernel_rfl
theorem ta_poly_Polygon (v : Value) (w : World) : (Instr.typeAssert (.iface 61 v) 41 61 true).run Tryz.prog w = .ok (.tuple #[v, .bool true]) w := by kernel_rfl

set_option maxRecDepth 100000 in
set_option maxHeartbeats 1000000 in
theorem cenPoly_c (v : Value) (w : World) (s0 : Nat) (M : Nat → Nat → Prop) (hp : ∀ w', Kp w w' → Calls Tryz.prog 42 #[v] w' (CenRet w' s0 M)) :
    Calls Tryz.prog 30 #[.iface 61 v] w (CenRet w s0 M) := by
  have Hp := Lib.hid hp
  clear hp
  have t1 := ta_poly_Point
  have t2 := ta_poly_MultiPoint
  have t3 := ta_poly_LineString
  have t4 := ta_poly_MultiLineString
  have t5 := ta_poly_Ring
  have t6 := ta_poly_Polygon
  go_enter Tryz.func30, Tryz.ntmps30
  go_wp2_with (go_at_call 42; (with_reducible refine (Hp.out _ (by repeat (first | (with_reducible exact Kp.refl _) | (with_reducible assumption) | (with_reducible apply Kp.ext) | (with_reducible apply Kp.alloc) | (with_reducible apply Kp.drew) | (with_reducible apply Kp.drewN) | (with_reducible refine Kp.setCell ?_ (by first | (dsimp only; omega) | (simp; omega) | (simp; done) | (simp [size_ext_eq]; omega)) _)))).mono ?_); rintro e w1 ⟨cx, cy, rfl, hM, u, rfl⟩; have HM := Lib.hid hM; clear hM)
  exact bodyPost_ret (v := .tuple #[.agg #[.float .f64 cx, .float .f64 cy], .float .f64 s0]) (by simp [results, Tryz.results30, go_sem]) rfl ⟨cx, cy, rfl, HM.out, _, ext_of (show Kp w _ from (by repeat (first | (with_reducible exact Kp.refl _) | (with_reducible assumption) | (with_reducible apply Kp.ext) | (with_reducible apply Kp.alloc) | (with_reducible apply Kp.drew) | (with_reducible apply Kp.drewN) | (with_reducible refine Kp.setCell ?_ (by first | (dsimp only; omega) | (simp; omega) | (simp; done) | (simp [size_ext_eq]; omega)) _))))⟩

set_option maxRecDepth 100000 in
set_option maxHeartbeats 1000000 in
theorem geoPoly_c (a : Option Addr) (cap : Nat) (P : Value) (lss : List (List (Nat × Nat))) (hn : lss.length ≤ 2147483647) (hns : ∀ l ∈ lss, l.length ≤ 2147483647) (w : World) (hs : ListsIn w a lss) :
    Calls Tryz.prog 17 #[.agg #[.int .i64 3, .slice a lss.length cap, P]] w (fun e w' => ∃ v w0 u, e = .returned (.iface 61 v) ∧ w' = ext w u ∧ Kp w w0 ∧ PolyNew w0 w' v lss) := by
  have hp := Lib.hid (fun w' (hk : Kp w w') => polygonOf_c a cap (.int .i64 3) P lss hn hns w' (by
    rcases hs with h | ⟨L, off, rfl, hL, hl⟩
    · exact .inl h
    · exact .inr ⟨L, off, rfl, Nat.lt_of_lt_of_le hL hk.size, hl.kp hL hk⟩))
  clear hs
  go_enter Tryz.func17, Tryz.ntmps17
  go_wp2_with (go_at_call 29; (with_reducible refine (hp.out _ (by repeat (first | (with_reducible exact Kp.refl _) | (with_reducible assumption) | (with_reducible apply Kp.ext) | (with_reducible apply Kp.alloc) | (with_reducible apply Kp.drew) | (with_reducible apply Kp.drewN) | (with_reducible refine Kp.setCell ?_ (by first | (dsimp only; omega) | (simp; omega) | (simp; done) | (simp [size_ext_eq]; omega)) _)))).mono ?_); rintro e w1 ⟨v, u, rfl, rfl, hnew⟩; have Hnew := Lib.hid hnew; clear hnew)
  go_ret
  exact ⟨v, _, _, rfl, ext_of (show Kp w _ from (by repeat (first | (with_reducible exact Kp.refl _) | (with_reducible assumption) | (with_reducible apply Kp.ext) | (with_reducible apply Kp.alloc) | (with_reducible apply Kp.drew) | (with_reducible apply Kp.drewN) | (with_reducible refine Kp.setCell ?_ (by first | (dsimp only; omega) | (simp; omega) | (simp; done) | (simp [size_ext_eq]; omega)) _)))), (by repeat (first | (with_reducible exact Kp.refl _) | (with_reducible assumption) | (with_reducible apply Kp.ext) | (with_reducible apply Kp.alloc) | (with_reducible apply Kp.drew) | (with_reducible apply Kp.drewN) | (with_reducible refine Kp.setCell ?_ (by first | (dsimp only; omega) | (simp; omega) | (simp; done) | (simp [size_ext_eq]; omega)) _))), Hnew.out⟩

theorem poly_form {w w' : World} {v : Value} {ps : List (Nat × Nat)} (h : PolyNew w w' v [ps]) (hpos : 0 < ps.length) : ∃ R cap g c, v = .slice (some ⟨R, 0, none⟩) 1 cap ∧ R < w'.heap.size ∧ w'.cell? ⟨R, 0, none⟩ = some (.slice (some ⟨g, 0, none⟩) ps.length c) ∧ g < w'.heap.size ∧ PtsAt w' g 0 ps := by
  obtain ⟨vs, hown, hl, hr⟩ := h
  obtain ⟨x, hx, hn⟩ := hr 0 (by simp) (by simp)
  obtain ⟨g, c, hv, _, hg, _, _, hp⟩ := PtsNew.form hn (by simpa using hpos)
  have hown' := hown
  rcases hown.2 with ⟨_, h0⟩ | ⟨R, cap, cur, rfl, _, hR, _⟩
  · simp at h0
  · refine ⟨R, cap, g, c, rfl, ?_, ?_, hg, hp⟩
    · rcases Nat.lt_or_ge R w'.heap.size with k | k
      · exact k
      · rw [Array.getElem?_eq_none k] at hR; cases hR
    · have := hown'.cellAt 0 (by simp)
      rw [this, hx, hv]
      rfl

end Go.Proofs.YtohidpmkoehmcaaGreatDoor
