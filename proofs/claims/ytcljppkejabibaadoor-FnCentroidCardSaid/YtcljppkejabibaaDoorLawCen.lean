/-
  laws.FnCentroid, walked: it answers true.
-/
import Derived.Test.YtcljppkejabibaaDoorCenF
import Derived.Test.YtcljppkejabibaaDoorMeas
import Derived.Test.YtcljppkejabibaaDoorLawBox
namespace Go.Proofs.YtcljppkejabibaaDoor
open PubFl Go.RowKit

attribute [local go_sem] cell_ext frozen_ext ext_setCell cell_store size_ext_eq lt_p0 lt_p1 lt_p2 lt_p3 lt_p4 lt_p5 lt_p6 lt_p7 lt_p8 lt_p9 lt_p10 lt_p11 lt_p12 lt_p13 lt_p14 lt_p15 lt_p16 lt_p17 lt_p18 lt_p19 lt_p20 lt_p21 lt_p22 lt_p23 lt_p24 lt_p25 lt_p26 lt_p27 lt_p28 lt_p29 lt_p30 lt_p31 lt_p32 lt_q1 lt_q2 lt_q3 lt_q4 lt_q5 lt_q6 lt_q7 lt_q8 lt_q9 lt_q10 lt_q11 lt_q12 lt_q13 lt_q14 lt_q15 lt_q16 lt_q17 lt_q18 lt_q19 lt_q20 lt_q21 lt_q22 lt_q23 lt_q24 lt_q25 lt_q26 lt_q27 lt_q28 lt_q29 lt_q30 lt_q31 lt_q32 run_fop run_store_float
attribute [local go_sem high] cmp_eql cmp_neq cmp_lss cmp_leq cmp_gtr cmp_geq

def cen5 (ax ay bx by' : Nat) : List (Nat × Nat) := [(ax, ay), (bx, ay), (bx, by'), (ax, by'), (ax, ay)]
def cenX (x0 x1 : Int) : Nat → Int
  | 1 | 2 => x1
  | _ => x0
def cenY (y0 y1 : Int) : Nat → Int
  | 2 | 3 => y1
  | _ => y0

theorem cen5_ints {ax ay bx by' : Nat} {x0 y0 x1 y1 : Int} (h1 : IsV ax x0) (h2 : IsV ay y0) (h3 : IsV bx x1) (h4 : IsV by' y1) (b1 : -1000 ≤ x0 ∧ x0 ≤ 1000) (b2 : -1000 ≤ y0 ∧ y0 ≤ 1000) (b3 : -1000 ≤ x1 ∧ x1 ≤ 1000) (b4 : -1000 ≤ y1 ∧ y1 ≤ 1000) :
    IntPts (cen5 ax ay bx by') (cenX x0 x1) (cenY y0 y1) := by
  intro i hi
  match i, hi with
  | 0, _ => exact ⟨h1, h2, b1, b2⟩
  | 1, _ => exact ⟨h3, h2, b3, b2⟩
  | 2, _ => exact ⟨h3, h4, b3, b4⟩
  | 3, _ => exact ⟨h1, h4, b1, b4⟩
  | 4, _ => exact ⟨h1, h2, b1, b2⟩

theorem cen_off (x0 y0 x1 y1 : Int) : sumTo (offT (cenX x0 x1) (cenY y0 y1)) 3 = 2 * ((x1 - x0) * (y1 - y0)) := by
  simp only [sumTo, offT, cenX, cenY]; grind
theorem cen_mx (x0 y0 x1 y1 : Int) : sumTo (momT (cenX x0 x1) (cenX x0 x1) (cenY y0 y1)) 3 = 3 * (x1 - x0) * ((x1 - x0) * (y1 - y0)) := by
  simp only [sumTo, momT, offT, cenX, cenY]; grind
theorem cen_my (x0 y0 x1 y1 : Int) : sumTo (momT (cenY y0 y1) (cenX x0 x1) (cenY y0 y1)) 3 = 3 * (y1 - y0) * ((x1 - x0) * (y1 - y0)) := by
  simp only [sumTo, momT, offT, cenX, cenY]; grind

structure CenFacts (ax ay bx by' s0 cx cy : Nat) : Prop where
  o1 : FOk .add ax bx
  o2 : FOk .quo (fop .add ax bx) 4611686018427387904
  o3 : FOk .add ay by'
  o4 : FOk .quo (fop .add ay by') 4611686018427387904
  o5 : FOk .sub bx ax
  o6 : FOk .sub by' ay
  o7 : FOk .mul (fop .sub bx ax) (fop .sub by' ay)
  e1 : eqF (absF s0) (fop .mul (fop .sub bx ax) (fop .sub by' ay)) = true
  d : DsqOk cx cy (fop .quo (fop .add ax bx) 4611686018427387904) (fop .quo (fop .add ay by') 4611686018427387904)
  lt : ltF (dsqF cx cy (fop .quo (fop .add ax bx) 4611686018427387904) (fop .quo (fop .add ay by') 4611686018427387904)) 4427486594234968593 = true

theorem sub_same {a b : Nat} {q : Rat} (h1 : IsV a q) (h2 : IsV b q) : FOk .sub a b ∧ IsV (fop .sub a b) ((0 : Int) : Rat) := by
  obtain ⟨o, v⟩ := sub_few h1 h2 (by rw [Rat.sub_self]; exact few_int (n := 0) (by decide))
  rw [Rat.sub_self] at v
  exact ⟨o, v⟩

theorem mid_v {a b : Nat} {x0 x1 : Int} (h1 : IsV a x0) (h2 : IsV b x1) (b1 : -1000 ≤ x0 ∧ x0 ≤ 1000) (b2 : -1000 ≤ x1 ∧ x1 ≤ 1000) : FOk .add a b ∧ FOk .quo (fop .add a b) 4611686018427387904 ∧ IsV (fop .quo (fop .add a b) 4611686018427387904) (((2 * x0 + (x1 - x0) : Int) : Rat) * (2 : Rat) ^ (-((1 : Nat) : Int))) := by
  obtain ⟨o1, v1⟩ := add_int h1 h2 (by omega)
  rw [show x0 + x1 = 2 * x0 + (x1 - x0) by omega] at v1
  obtain ⟨o2, v2⟩ := quo_few (v := ((2 * x0 + (x1 - x0) : Int) : Rat) * (2 : Rat) ^ (-((1 : Nat) : Int))) v1 two_v (by decide) (by
    have h2 : ((2 : Int) : Rat) = 2 := rfl
    rw [h2, half_eq]; grind) (few_part 1 (by decide) (by omega))
  exact ⟨o1, o2, v2⟩

theorem small_v : IsV 4427486594234968593 (rat false 4951760157141521 (-92)) := ⟨by decide, false, 4951760157141521, -92, by kernel_rfl, rfl⟩

theorem cen_facts {ax ay bx by' : Nat} (k1 : ax < 2 ^ 64) (k2 : ay < 2 ^ 64) (k3 : bx < 2 ^ 64) (k4 : by' < 2 ^ 64) (c1 : isBoxB ax ay bx by' = true) (n1 : eqF ax bx = false) (n2 : eqF ay by' = false) :
    ∃ (x y : Nat → Int) (s0 : Nat), IntPts (cen5 ax ay bx by') x y ∧ AreaIs (cen5 ax ay bx by') x y s0 ∧ eqF (absF s0) 0 = false ∧ ∀ cx cy, AreaMid (sumTo (offT x y) 3) (sumTo (momT x x y) 3) (sumTo (momT y x y) 3) ax ay cx cy → CenFacts ax ay bx by' s0 cx cy := by
  obtain ⟨q1, q2, q3, q4⟩ := isBoxB_points c1
  obtain ⟨x0, y0, i1, i2, b1, b2⟩ := pointB_int k1 k2 q1
  obtain ⟨x1, y1, i3, i4, b3, b4⟩ := pointB_int k3 k4 q2
  rw [leF_int i1 i3] at q3
  rw [leF_int i2 i4] at q4
  rw [eqF_int i1 i3] at n1
  rw [eqF_int i2 i4] at n2
  simp only [decide_eq_true_eq, decide_eq_false_iff_not] at q3 q4 n1 n2
  have hx : x0 < x1 := by omega
  have hy : y0 < y1 := by omega
  have hi := cen5_ints i1 i2 i3 i4 b1 b2 b3 b4
  have hA : 0 < (x1 - x0) * (y1 - y0) := Int.mul_pos (by omega) (by omega)
  have hA2 : (x1 - x0) * (y1 - y0) ≤ 4000000 := (mul_le_sq (m := 2000) (a := x1 - x0) (b := y1 - y0) (by omega) (by omega)).2
  obtain ⟨s0, hs0⟩ := areaIs_of (ps := cen5 ax ay bx by') (show 5 ≤ 1000 by decide) (show 2 ≤ 5 by decide) hi
  have v0 : IsV s0 (((x1 - x0) * (y1 - y0) : Int) : Rat) := by
    have h := hs0.v
    rw [show (cen5 ax ay bx by').length - 2 = 3 from rfl, cen_off] at h
    have e : ((2 * ((x1 - x0) * (y1 - y0)) : Int) : Rat) * (2 : Rat) ^ (-(1 : Int)) = (((x1 - x0) * (y1 - y0) : Int) : Rat) := by
      have h2 : ((2 : Int) : Rat) = 2 := rfl
      have h3 : (2 : Rat) ^ (-(1 : Int)) = 1 / 2 := by decide +kernel
      rw [h3, Rat.intCast_mul, h2]; grind
    rw [e] at h
    exact h
  have va : IsV (absF s0) (((x1 - x0) * (y1 - y0) : Int) : Rat) := by
    have := absF_int v0
    rwa [show ((((x1 - x0) * (y1 - y0)).natAbs : Nat) : Int) = (x1 - x0) * (y1 - y0) by omega] at this
  obtain ⟨p1, p2, p3⟩ := mid_v i1 i3 b1 b3
  obtain ⟨p4, p5, p6⟩ := mid_v i2 i4 b2 b4
  obtain ⟨p7, p8⟩ := sub_int i3 i1 (by omega)
  obtain ⟨p9, p10⟩ := sub_int i4 i2 (by omega)
  obtain ⟨p11, p12⟩ := mul_int p8 p10 (by omega)
  refine ⟨_, _, s0, hi, hs0, ?_, fun cx cy hM => ?_⟩
  · rw [eqF_int va zero_isV]
    exact decide_eq_false (by omega)
  · rw [cen_off, cen_mx, cen_my] at hM
    obtain ⟨s, mx, my, hs, hmx, hmy, rfl, rfl⟩ := hM (by omega)
    have vx := axis_mid (W := x1 - x0) (H := y1 - y0) ⟨by omega, by omega⟩ ⟨by omega, by omega⟩ b1 hs hmx i1
    have hcm : (x1 - x0) * (y1 - y0) = (y1 - y0) * (x1 - x0) := Int.mul_comm _ _
    rw [hcm] at hs hmy
    have vy := axis_mid (W := y1 - y0) (H := x1 - x0) ⟨by omega, by omega⟩ ⟨by omega, by omega⟩ b2 hs hmy i2
    obtain ⟨d1, e1⟩ := sub_same vx p3
    obtain ⟨d2, e2⟩ := sub_same vy p6
    obtain ⟨d3, e3⟩ := mul_int e1 e1 (by decide)
    obtain ⟨d4, e4⟩ := mul_int e2 e2 (by decide)
    obtain ⟨d5, e5⟩ := add_int e3 e4 (by decide)
    refine ⟨p1, p2, p4, p5, p7, p9, p11, ?_, ⟨d1, d2, d3, d4, d5⟩, ?_⟩
    · rw [eqF_int va p12]; exact decide_eq_true rfl
    · refine (ltF_isV e5 small_v).trans (decide_eq_true ?_)
      decide +kernel

theorem lit_pts (W : World) (ax ay bx by' : Nat) (t : TypeId) : PtsAt (W.alloc (.cells #[.float .f64 ax, .float .f64 ay, .float .f64 bx, .float .f64 ay, .float .f64 bx, .float .f64 by', .float .f64 ax, .float .f64 by', .float .f64 ax, .float .f64 ay] t)) W.heap.size 0 (cen5 ax ay bx by') := by
  obtain ⟨g, cap, hv, _, _, _, _, hp⟩ := (show PtsNew W _ t (.slice (some ⟨W.heap.size, 0, none⟩) 5 5) (cen5 ax ay bx by') from World.ownsRow_lit W _ 5 (Nat.le_refl _) (by decide) rfl).form (show 0 < 5 by decide)
  cases hv
  exact hp

theorem cenAt (W : World) (n m : Nat) (hn : n = W.heap.size) (hm : m = W.heap.size + 1) (ax ay bx by' : Nat) (t t' : TypeId) (x y : Nat → Int) (s0 : Nat) (hi : IntPts (cen5 ax ay bx by') x y) (hs : AreaIs (cen5 ax ay bx by') x y s0) (h1 : eqF (absF s0) 0 = false)
    (hF : ∀ cx cy, AreaMid (sumTo (offT x y) 3) (sumTo (momT x x y) 3) (sumTo (momT y x y) 3) ax ay cx cy → CenFacts ax ay bx by' s0 cx cy) :
    Calls Tryd.prog 17 #[.agg #[.int .i64 3, .slice (some ⟨m, 0, none⟩) 1 1, .slice none 0 0]] ((W.alloc (.cells #[.float .f64 ax, .float .f64 ay, .float .f64 bx, .float .f64 ay, .float .f64 bx, .float .f64 by', .float .f64 ax, .float .f64 by', .float .f64 ax, .float .f64 ay] t)).alloc (.cells #[.slice (some ⟨n, 0, none⟩) 5 5] t'))
      (CenRet ((W.alloc (.cells #[.float .f64 ax, .float .f64 ay, .float .f64 bx, .float .f64 ay, .float .f64 bx, .float .f64 by', .float .f64 ax, .float .f64 by', .float .f64 ax, .float .f64 ay] t)).alloc (.cells #[.slice (some ⟨n, 0, none⟩) 5 5] t')) (absF s0) (CenFacts ax ay bx by' s0)) := by
  subst hn hm
  have hp := lit_pts W ax ay bx by' t
  generalize hV : W.alloc (.cells #[.float .f64 ax, .float .f64 ay, .float .f64 bx, .float .f64 ay, .float .f64 bx, .float .f64 by', .float .f64 ax, .float .f64 by', .float .f64 ax, .float .f64 ay] t) = V at *
  have hz : V.heap.size = W.heap.size + 1 := by rw [← hV]; simp
  have hk : Kp V (V.alloc (.cells #[.slice (some ⟨W.heap.size, 0, none⟩) 5 5] t')) := (by repeat (first | (with_reducible exact Kp.refl _) | (with_reducible assumption) | (with_reducible apply Kp.ext) | (with_reducible apply Kp.alloc) | (with_reducible apply Kp.drew) | (with_reducible apply Kp.drewN) | (with_reducible refine Kp.setCell ?_ (by first | (dsimp only; omega) | (simp; omega) | (simp; done) | (simp [size_ext_eq]; omega)) _)))
  have hc : (V.alloc (.cells #[.slice (some ⟨W.heap.size, 0, none⟩) 5 5] t')).cell? ⟨W.heap.size + 1, 0, none⟩ = some (.slice (some ⟨W.heap.size, 0, none⟩) 5 5) := by
    rw [← hz]
    have h := heap_alloc_new V (.cells #[.slice (some ⟨W.heap.size, 0, none⟩) 5 5] t')
    unfold World.cell?
    simp only [h]
    rfl
  refine (implCen_c (W.heap.size + 1) 1 (some ⟨W.heap.size, 0, none⟩) 5 (cen5 ax ay bx by') (show 5 ≤ 1000 by decide) (show 2 ≤ 5 by decide) _ (by simp; omega) hc (.inr ⟨_, 0, rfl, by simp; omega, hp.kp (by omega) hk⟩) x y hi s0 hs h1).mono ?_
  rintro e w2 ⟨cx, cy, rfl, hM, u, rfl⟩
  exact ⟨cx, cy, rfl, hF cx cy hM, u, rfl⟩

set_option maxRecDepth 20000 in
set_option maxHeartbeats 1000000 in
theorem cen_walk (ax ay bx by' : Nat) (k1 : ax < 2 ^ 64) (k2 : ay < 2 ^ 64) (k3 : bx < 2 ^ 64) (k4 : by' < 2 ^ 64) (w : World) (c1 : isBoxB ax ay bx by' = true) (n1 : eqF ax bx = false) (n2 : eqF ay by' = false) :
    Calls Tryd.prog 5 #[.agg #[.float .f64 ax, .float .f64 ay], .agg #[.float .f64 bx, .float .f64 by']] w (Ret w (.bool true)) := by
  have hb := isBox_c ax ay bx by' k1 k2 k3 k4
  rw [c1] at hb
  obtain ⟨x, y, s0, hi, hs, h1, hF⟩ := cen_facts k1 k2 k3 k4 c1 n1 n2
  have hcen := Lib.hid (fun W n m hn hm t t' => cenAt W n m hn hm ax ay bx by' t t' x y s0 hi hs h1 hF)
  clear hi hs h1 hF
  go_enter Tryd.func5, Tryd.ntmps5
  go_wp2_with (first | (go_at_call 16; (first | (with_reducible refine (Ret.at_ext (hb _)).mono ?_) | (with_reducible refine (hb _).mono ?_)); rintro e w' ⟨rfl, u, rfl⟩) | (go_at_call 8; (first | (with_reducible refine (Ret.at_ext (measures_c _)).mono ?_) | (with_reducible refine (measures_c _).mono ?_)); rintro e w' ⟨rfl, u, rfl⟩) | (go_at_call 17; (with_reducible refine (hcen.out _ _ _ ?hn ?hm _ _).mono ?_); (case hn => simp [size_ext_eq]); (case hm => simp [size_ext_eq]); rintro e w2 ⟨cx, cy, rfl, hM, u2, rfl⟩; obtain ⟨o1, o2, o3, o4, o5, o6, o7, e1, d, lt⟩ := hM; have hD := Lib.hid d; clear d) | (go_at_call 18; (first | (with_reducible refine (Ret.at_ext (squared_c _ _ _ _ hD.out _)).mono ?_) | (with_reducible refine (squared_c _ _ _ _ hD.out _).mono ?_)); rintro e w' ⟨rfl, u, rfl⟩))
  go_ret
  exact Ret.mk rfl (by repeat (first | (with_reducible exact Kp.refl _) | (with_reducible assumption) | (with_reducible apply Kp.ext) | (with_reducible apply Kp.alloc) | (with_reducible apply Kp.drew) | (with_reducible apply Kp.drewN) | (with_reducible refine Kp.setCell ?_ (by first | (dsimp only; omega) | (simp; omega) | (simp; done) | (simp [size_ext_eq]; omega)) _)))

set_option maxRecDepth 20000 in
set_option maxHeartbeats 1000000 in
theorem cen_no (ax ay bx by' : Nat) (k1 : ax < 2 ^ 64) (k2 : ay < 2 ^ 64) (k3 : bx < 2 ^ 64) (k4 : by' < 2 ^ 64) (w : World) (h : isBoxB ax ay bx by' = false ∨ isBoxB ax ay bx by' = true ∧ (eqF ax bx = true ∨ eqF ax bx = false ∧ eqF ay by' = true)) :
    Calls Tryd.prog 5 #[.agg #[.float .f64 ax, .float .f64 ay], .agg #[.float .f64 bx, .float .f64 by']] w (Ret w (.bool true)) := by
  have hb := isBox_c ax ay bx by' k1 k2 k3 k4
  rcases h with c1 | ⟨c1, n1 | ⟨n1, n2⟩⟩
  all_goals
    rw [c1] at hb
    go_enter Tryd.func5, Tryd.ntmps5
    go_wp2_with (first | (go_at_call 16; (first | (with_reducible refine (Ret.at_ext (hb _)).mono ?_) | (with_reducible refine (hb _).mono ?_)); rintro e w' ⟨rfl, u, rfl⟩) | (go_at_call 8; (first | (with_reducible refine (Ret.at_ext (measures_c _)).mono ?_) | (with_reducible refine (measures_c _).mono ?_)); rintro e w' ⟨rfl, u, rfl⟩))
    go_ret
    exact Ret.mk rfl (by repeat (first | (with_reducible exact Kp.refl _) | (with_reducible assumption) | (with_reducible apply Kp.ext) | (with_reducible apply Kp.alloc) | (with_reducible apply Kp.drew) | (with_reducible apply Kp.drewN) | (with_reducible refine Kp.setCell ?_ (by first | (dsimp only; omega) | (simp; omega) | (simp; done) | (simp [size_ext_eq]; omega)) _)))

theorem centroid_walk (ax ay bx by' : Nat) (k1 : ax < 2 ^ 64) (k2 : ay < 2 ^ 64) (k3 : bx < 2 ^ 64) (k4 : by' < 2 ^ 64) (w : World) :
    Calls Tryd.prog 5 #[.agg #[.float .f64 ax, .float .f64 ay], .agg #[.float .f64 bx, .float .f64 by']] w (Ret w (.bool true)) := by
  cases c1 : isBoxB ax ay bx by'
  · exact cen_no _ _ _ _ k1 k2 k3 k4 w (.inl c1)
  cases n1 : eqF ax bx
  · cases n2 : eqF ay by'
    · exact cen_walk _ _ _ _ k1 k2 k3 k4 w c1 n1 n2
    · exact cen_no _ _ _ _ k1 k2 k3 k4 w (.inr ⟨c1, .inr ⟨n1, n2⟩⟩)
  · exact cen_no _ _ _ _ k1 k2 k3 k4 w (.inr ⟨c1, .inl n1⟩)
end Go.Proofs.YtcljppkejabibaaDoor
