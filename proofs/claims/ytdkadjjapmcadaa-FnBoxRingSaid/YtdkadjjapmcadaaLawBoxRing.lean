/-
  laws.FnBoxRing, walked: it answers true.
-/
import Derived.Test.YtdkadjjapmcadaaBoxRing
namespace Go.Proofs.Ytdkadjjapmcadaa
open PubFl Go.RowKit

attribute [local go_sem] cell_ext frozen_ext ext_setCell cell_store size_ext_eq lt_p0 lt_p1 lt_p2 lt_p3 lt_p4 lt_p5 lt_p6 lt_p7 lt_p8 lt_p9 lt_p10 lt_p11 lt_p12 lt_p13 lt_p14 lt_p15 lt_p16 lt_p17 lt_p18 lt_p19 lt_p20 lt_p21 lt_p22 lt_p23 lt_p24 lt_p25 lt_p26 lt_p27 lt_p28 lt_p29 lt_p30 lt_p31 lt_p32 lt_q1 lt_q2 lt_q3 lt_q4 lt_q5 lt_q6 lt_q7 lt_q8 lt_q9 lt_q10 lt_q11 lt_q12 lt_q13 lt_q14 lt_q15 lt_q16 lt_q17 lt_q18 lt_q19 lt_q20 lt_q21 lt_q22 lt_q23 lt_q24 lt_q25 lt_q26 lt_q27 lt_q28 lt_q29 lt_q30 lt_q31 lt_q32 run_fop run_store_float
attribute [local go_sem high] cmp_eql cmp_neq cmp_lss cmp_leq cmp_gtr cmp_geq

structure RingFacts (ax ay bx by' s : Nat) : Prop where
  simp : ∀ g cap w, g < w.heap.size → PtsAt w g 0 (ring5 ax ay bx by') → Calls Try.prog 38 #[.slice (some ⟨g, 0, none⟩) 5 cap] w (Ret w (.bool true))
  box : ∀ g cap w, g < w.heap.size → PtsAt w g 0 (ring5 ax ay bx by') → Calls Try.prog 39 #[.slice (some ⟨g, 0, none⟩) 5 cap] w (Ret w (.tuple #[.agg #[.float .f64 (lowF (ax, ay) (ring5 ax ay bx by')).1, .float .f64 (lowF (ax, ay) (ring5 ax ay bx by')).2], .agg #[.float .f64 (highF (ax, ay) (ring5 ax ay bx by')).1, .float .f64 (highF (ax, ay) (ring5 ax ay bx by')).2]]))
  low : eqF (lowF (ax, ay) (ring5 ax ay bx by')).1 ax = true ∧ eqF (lowF (ax, ay) (ring5 ax ay bx by')).2 ay = true
  high : eqF (highF (ax, ay) (ring5 ax ay bx by')).1 bx = true ∧ eqF (highF (ax, ay) (ring5 ax ay bx by')).2 by' = true
  dbl : ∀ g cap w, g < w.heap.size → PtsAt w g 0 (ring5 ax ay bx by') → Calls Try.prog 40 #[.slice (some ⟨g, 0, none⟩) 5 cap] w (Ret w (.float .f64 s))
  o1 : FOk .sub bx ax
  o2 : FOk .mul 4611686018427387904 (fop .sub bx ax)
  o3 : FOk .sub by' ay
  o4 : FOk .mul (fop .mul 4611686018427387904 (fop .sub bx ax)) (fop .sub by' ay)
  eq : eqF s (fop .mul (fop .mul 4611686018427387904 (fop .sub bx ax)) (fop .sub by' ay)) = true

theorem two_isV : IsV 4611686018427387904 ((2 : Int) : Rat) := by
  rw [show (4611686018427387904 : Nat) = fl 2 by kernel_rfl]; exact fl_isV (by decide)

theorem ring_facts {ax ay bx by' : Nat} (k1 : ax < 2 ^ 64) (k2 : ay < 2 ^ 64) (k3 : bx < 2 ^ 64) (k4 : by' < 2 ^ 64) (c1 : isBoxB ax ay bx by' = true) (n1 : eqF ax bx = false) (n2 : eqF ay by' = false) : ∃ s, RingFacts ax ay bx by' s := by
  obtain ⟨q1, q2, q3, q4⟩ := isBoxB_points c1
  obtain ⟨x0, y0, i1, i2, b1, b2⟩ := pointB_int k1 k2 q1
  obtain ⟨x1, y1, i3, i4, b3, b4⟩ := pointB_int k3 k4 q2
  rw [leF_int i1 i3] at q3
  rw [leF_int i2 i4] at q4
  rw [eqF_int i1 i3] at n1
  rw [eqF_int i2 i4] at n2
  simp only [decide_eq_true_eq, decide_eq_false_iff_not] at q3 q4 n1 n2
  have hx : x0 < x1 := by omega
  have hy : y0 < y1 := by omega
  have hi := ring5_ints i1 i2 i3 i4 b1 b2 b3 b4
  have hA : 0 < (x1 - x0) * (y1 - y0) := Int.mul_pos (by omega) (by omega)
  have hA2 := mul_le_sq (m := 2000) (a := x1 - x0) (b := y1 - y0) (by omega) (by omega)
  have hbits : Bits (ring5 ax ay bx by') := by
    intro i hi
    have hi5 : i < 5 := hi
    rcases (show i = 0 ∨ i = 1 ∨ i = 2 ∨ i = 3 ∨ i = 4 by omega) with rfl | rfl | rfl | rfl | rfl
    · exact ⟨k1, k2⟩
    · exact ⟨k3, k2⟩
    · exact ⟨k3, k4⟩
    · exact ⟨k1, k4⟩
    · exact ⟨k1, k2⟩
  have hR : ringB (ring5 ax ay bx by') = true := by
    have w1 : wholeB ax = true := by unfold pointB at q1; simp only [Bool.and_eq_true] at q1; exact q1.1
    have w2 : wholeB ay = true := by unfold pointB at q1; simp only [Bool.and_eq_true] at q1; exact q1.2
    have w3 : wholeB bx = true := by unfold pointB at q2; simp only [Bool.and_eq_true] at q2; exact q2.1
    have w4 : wholeB by' = true := by unfold pointB at q2; simp only [Bool.and_eq_true] at q2; exact q2.2
    have e1 : eqF ax ax = true := by rw [eqF_int i1 i1]; simp
    have e2 : eqF ay ay = true := by rw [eqF_int i2 i2]; simp
    simp [ringB, arePtsB, meetsB, ring5, pointB, w1, w2, w3, w4, e1, e2]
  have hsum : sumTo (crossT (boxX x0 x1) (boxY y0 y1)) ((ring5 ax ay bx by').length - 1) = 2 * ((x1 - x0) * (y1 - y0)) := box_area
  have hsg : sgn (2 * ((x1 - x0) * (y1 - y0))) = 1 := by unfold sgn; rw [if_pos (by omega)]
  obtain ⟨o1, v1⟩ := sub_int i3 i1 (by omega)
  obtain ⟨o2, v2⟩ := mul_int two_isV v1 (by omega)
  obtain ⟨o3, v3⟩ := sub_int i4 i2 (by omega)
  have e4 : 2 * (x1 - x0) * (y1 - y0) = 2 * ((x1 - x0) * (y1 - y0)) := Int.mul_assoc _ _ _
  obtain ⟨o4, v4⟩ := mul_int v2 v3 (by rw [e4]; omega)
  rw [e4] at v4
  refine ⟨fl (2 * ((x1 - x0) * (y1 - y0))), ?_, ?_, ?_, ?_, ?_, o1, o2, o3, o4, ?_⟩
  · intro g cap w hg hpt
    have F := simp_facts (fun i => (boxX x0 x1 i, boxY y0 y1 i)) 4 1
    rw [box_simple hx hy] at F
    exact isSimple_c g 0 cap (ring5 ax ay bx by') (by show 4 ≤ 5; decide) (by show 5 ≤ 100; decide) w hg hpt hbits hR _ _ hi true (by
      rw [hsum, hsg]; exact F)
  · intro g cap w hg hpt
    exact boxOf_c g 0 cap ax ay (ring5 ax ay bx by') (by show 0 < 5; decide) rfl w hg (by show 5 ≤ _; decide) hpt
  · have v1 := minF_int (minF_int (minF_int (minF_int (minF_int i1 i1) i3) i3) i1) i1
    have v2 := minF_int (minF_int (minF_int (minF_int (minF_int i2 i2) i2) i4) i4) i2
    constructor
    · exact (eqF_int v1 i1).trans (by simp; omega)
    · exact (eqF_int v2 i2).trans (by simp; omega)
  · have v1 := maxF_int (maxF_int (maxF_int (maxF_int (maxF_int i1 i1) i3) i3) i1) i1
    have v2 := maxF_int (maxF_int (maxF_int (maxF_int (maxF_int i2 i2) i2) i4) i4) i2
    constructor
    · exact (eqF_int v1 i3).trans (by simp; omega)
    · exact (eqF_int v2 i4).trans (by simp; omega)
  · intro g cap w hg hpt
    refine (doubled_c (some ⟨g, 0, none⟩) cap (ring5 ax ay bx by') (by show 5 ≤ 1000; decide) (by show 0 < 5; decide) w (.inr ⟨g, 0, rfl, hg, hpt⟩) _ _ hi).mono ?_
    rintro e w' ⟨s, rfl, hs, hu⟩
    rw [hsum] at hs
    have h0 : ((2 * ((x1 - x0) * (y1 - y0)) : Int) : Rat) ≠ 0 := fun h => by
      have : 2 * ((x1 - x0) * (y1 - y0)) = 0 := Rat.intCast_inj.1 h
      omega
    have := isV_bits hs (fl_isV (n := 2 * ((x1 - x0) * (y1 - y0))) (by omega)) h0
    exact ⟨by rw [this], hu⟩
  · rw [eqF_int (fl_isV (n := 2 * ((x1 - x0) * (y1 - y0))) (by omega)) v4]; simp

set_option maxRecDepth 100000 in
set_option maxHeartbeats 2000000 in
theorem boxRing_yes (ax ay bx by' : Nat) (k1 : ax < 2 ^ 64) (k2 : ay < 2 ^ 64) (k3 : bx < 2 ^ 64) (k4 : by' < 2 ^ 64) (c1 : isBoxB ax ay bx by' = true) (n1 : eqF ax bx = false) (n2 : eqF ay by' = false) (w : World) :
    Calls Try.prog 11 #[.agg #[.float .f64 ax, .float .f64 ay], .agg #[.float .f64 bx, .float .f64 by']] w (Ret w (.bool true)) := by
  obtain ⟨s, hsimp, hbox, ⟨l1, l2⟩, ⟨h1, h2⟩, hdbl, o1, o2, o3, o4, heqs⟩ := ring_facts k1 k2 k3 k4 c1 n1 n2
  have heq := run_eql_pt
  generalize lowF (ax, ay) (ring5 ax ay bx by') = L at *
  generalize highF (ax, ay) (ring5 ax ay bx by') = H at *
  obtain ⟨lx, ly⟩ := L
  obtain ⟨hx, hy⟩ := H
  have Hs := Lib.hid hsimp
  have Hb := Lib.hid hbox
  have Hd := Lib.hid hdbl
  clear hsimp hbox hdbl
  go_enter Try.func11, Try.ntmps11
  go_wp2_with (first | (go_at_call 19; (first | (with_reducible refine (Ret.at_ext (isBox_c _ _ _ _ (by assumption) (by assumption) (by assumption) (by assumption) _)).mono ?_) | (with_reducible refine (isBox_c _ _ _ _ (by assumption) (by assumption) (by assumption) (by assumption) _).mono ?_)); rintro e w' ⟨rfl, u, rfl⟩))
  go_at_call 37
  refine (boxRing_c _ _ _ _ _).mono ?_
  rintro e w2 ⟨g, cap', rfl, hg, hpt, hk2⟩
  have hk3 : Kp w w2 := Kp.trans (by repeat (first | (with_reducible exact Kp.refl _) | (with_reducible assumption) | (with_reducible apply Kp.ext) | (with_reducible apply Kp.alloc) | (with_reducible apply Kp.drew) | (with_reducible apply Kp.drewN) | (with_reducible refine Kp.setCell ?_ (by first | (dsimp only; omega) | (simp; omega) | (simp; done) | (simp [size_ext_eq]; omega)) _))) hk2
  have z1 : w.heap.size + 1 < w2.heap.size := by
    have := hk2.size
    simp [size_ext_eq] at this
    omega
  have z0 : w.heap.size < w2.heap.size := by omega
  have c0 : w2.cell? ⟨w.heap.size, 0, none⟩ = some (.float .f64 ax) := Kp.cell hk2 (by simp [go_sem]) (by simp [size_ext_eq]; omega)
  have c2 : w2.cell? ⟨w.heap.size, 1, none⟩ = some (.float .f64 ay) := Kp.cell hk2 (by simp [go_sem]) (by simp [size_ext_eq]; omega)
  have c3 : w2.cell? ⟨w.heap.size + 1, 0, none⟩ = some (.float .f64 bx) := Kp.cell hk2 (by simp [go_sem]) (by simp [size_ext_eq]; omega)
  have c4 : w2.cell? ⟨w.heap.size + 1, 1, none⟩ = some (.float .f64 by') := Kp.cell hk2 (by simp [go_sem]) (by simp [size_ext_eq]; omega)
  have HB := Lib.hid (fun w' (hk : Kp w2 w') => Hb.out g cap' w' (Nat.lt_of_lt_of_le hg hk.size) (hpt.kp hg hk))
  have HD := Lib.hid (fun w' (hk : Kp w2 w') => Hd.out g cap' w' (Nat.lt_of_lt_of_le hg hk.size) (hpt.kp hg hk))
  have HS := Lib.hid (fun w' (hk : Kp w2 w') => Hs.out g cap' w' (Nat.lt_of_lt_of_le hg hk.size) (hpt.kp hg hk))
  have hk4 : Kp w2 w2 := Kp.refl _
  clear Hb Hd Hs hpt hk2
  go_wp2_with (first | (go_at_call 38; (first | (with_reducible refine (Ret.at_ext (HS.out _ (by repeat (first | (with_reducible exact Kp.refl _) | (with_reducible assumption) | (with_reducible apply Kp.ext) | (with_reducible apply Kp.alloc) | (with_reducible apply Kp.drew) | (with_reducible apply Kp.drewN) | (with_reducible refine Kp.setCell ?_ (by first | (dsimp only; omega) | (simp; omega) | (simp; done) | (simp [size_ext_eq]; omega)) _))))).mono ?_) | (with_reducible refine (HS.out _ (by repeat (first | (with_reducible exact Kp.refl _) | (with_reducible assumption) | (with_reducible apply Kp.ext) | (with_reducible apply Kp.alloc) | (with_reducible apply Kp.drew) | (with_reducible apply Kp.drewN) | (with_reducible refine Kp.setCell ?_ (by first | (dsimp only; omega) | (simp; omega) | (simp; done) | (simp [size_ext_eq]; omega)) _)))).mono ?_)); rintro e w' ⟨rfl, u, rfl⟩) | (go_at_call 39; (first | (with_reducible refine (Ret.at_ext (HB.out _ (by repeat (first | (with_reducible exact Kp.refl _) | (with_reducible assumption) | (with_reducible apply Kp.ext) | (with_reducible apply Kp.alloc) | (with_reducible apply Kp.drew) | (with_reducible apply Kp.drewN) | (with_reducible refine Kp.setCell ?_ (by first | (dsimp only; omega) | (simp; omega) | (simp; done) | (simp [size_ext_eq]; omega)) _))))).mono ?_) | (with_reducible refine (HB.out _ (by repeat (first | (with_reducible exact Kp.refl _) | (with_reducible assumption) | (with_reducible apply Kp.ext) | (with_reducible apply Kp.alloc) | (with_reducible apply Kp.drew) | (with_reducible apply Kp.drewN) | (with_reducible refine Kp.setCell ?_ (by first | (dsimp only; omega) | (simp; omega) | (simp; done) | (simp [size_ext_eq]; omega)) _)))).mono ?_)); rintro e w' ⟨rfl, u, rfl⟩))
  first | (with_reducible refine wp_region_ext_lit2 ?_ ?_ ?_) | refine wp_region_ext_lit ?_ ?_ ?_
  kernel_rfl
  kernel_rfl
  repeat (go_big_quiet_step (first | (go_at_call 21; with_reducible exact Ret.quiet (boxes_c _)) | (go_at_call 40; with_reducible exact Ret.quiet (HD.out _ (by repeat (first | (with_reducible exact Kp.refl _) | (with_reducible assumption) | (with_reducible apply Kp.ext) | (with_reducible apply Kp.alloc) | (with_reducible apply Kp.drew) | (with_reducible apply Kp.drewN) | (with_reducible refine Kp.setCell ?_ (by first | (dsimp only; omega) | (simp; omega) | (simp; done) | (simp [size_ext_eq]; omega)) _)))))))
  refine wpQuiet_nil ?_
  rintro _ ⟨u, rfl⟩
  go_wp2_with fail
  go_ret
  exact Ret.mk rfl (by repeat (first | (with_reducible exact Kp.refl _) | (with_reducible assumption) | (with_reducible apply Kp.ext) | (with_reducible apply Kp.alloc) | (with_reducible apply Kp.drew) | (with_reducible apply Kp.drewN) | (with_reducible refine Kp.setCell ?_ (by first | (dsimp only; omega) | (simp; omega) | (simp; done) | (simp [size_ext_eq]; omega)) _)))

set_option maxHeartbeats 1000000 in
theorem boxRing_no (ax ay bx by' : Nat) (k1 : ax < 2 ^ 64) (k2 : ay < 2 ^ 64) (k3 : bx < 2 ^ 64) (k4 : by' < 2 ^ 64) (hc : (isBoxB ax ay bx by' && !eqF ax bx && !eqF ay by') = false) (w : World) :
    Calls Try.prog 11 #[.agg #[.float .f64 ax, .float .f64 ay], .agg #[.float .f64 bx, .float .f64 by']] w (Ret w (.bool true)) := by
  cases c1 : isBoxB ax ay bx by'
  · go_enter Try.func11, Try.ntmps11
    go_wp2_with (first | (go_at_call 19; (first | (with_reducible refine (Ret.at_ext (isBox_c _ _ _ _ (by assumption) (by assumption) (by assumption) (by assumption) _)).mono ?_) | (with_reducible refine (isBox_c _ _ _ _ (by assumption) (by assumption) (by assumption) (by assumption) _).mono ?_)); rintro e w' ⟨rfl, u, rfl⟩) | (go_at_call 21; (first | (with_reducible refine (Ret.at_ext (boxes_c _)).mono ?_) | (with_reducible refine (boxes_c _).mono ?_)); rintro e w' ⟨rfl, u, rfl⟩))
    go_ret
    exact Ret.mk rfl (by repeat (first | (with_reducible exact Kp.refl _) | (with_reducible assumption) | (with_reducible apply Kp.ext) | (with_reducible apply Kp.alloc) | (with_reducible apply Kp.drew) | (with_reducible apply Kp.drewN) | (with_reducible refine Kp.setCell ?_ (by first | (dsimp only; omega) | (simp; omega) | (simp; done) | (simp [size_ext_eq]; omega)) _)))
  · cases c2 : eqF ax bx
    · rw [c1, c2] at hc
      have c3 : eqF ay by' = true := by simpa using hc
      go_enter Try.func11, Try.ntmps11
      go_wp2_with (first | (go_at_call 19; (first | (with_reducible refine (Ret.at_ext (isBox_c _ _ _ _ (by assumption) (by assumption) (by assumption) (by assumption) _)).mono ?_) | (with_reducible refine (isBox_c _ _ _ _ (by assumption) (by assumption) (by assumption) (by assumption) _).mono ?_)); rintro e w' ⟨rfl, u, rfl⟩) | (go_at_call 21; (first | (with_reducible refine (Ret.at_ext (boxes_c _)).mono ?_) | (with_reducible refine (boxes_c _).mono ?_)); rintro e w' ⟨rfl, u, rfl⟩))
      go_ret
      exact Ret.mk rfl (by repeat (first | (with_reducible exact Kp.refl _) | (with_reducible assumption) | (with_reducible apply Kp.ext) | (with_reducible apply Kp.alloc) | (with_reducible apply Kp.drew) | (with_reducible apply Kp.drewN) | (with_reducible refine Kp.setCell ?_ (by first | (dsimp only; omega) | (simp; omega) | (simp; done) | (simp [size_ext_eq]; omega)) _)))
    · go_enter Try.func11, Try.ntmps11
      go_wp2_with (first | (go_at_call 19; (first | (with_reducible refine (Ret.at_ext (isBox_c _ _ _ _ (by assumption) (by assumption) (by assumption) (by assumption) _)).mono ?_) | (with_reducible refine (isBox_c _ _ _ _ (by assumption) (by assumption) (by assumption) (by assumption) _).mono ?_)); rintro e w' ⟨rfl, u, rfl⟩) | (go_at_call 21; (first | (with_reducible refine (Ret.at_ext (boxes_c _)).mono ?_) | (with_reducible refine (boxes_c _).mono ?_)); rintro e w' ⟨rfl, u, rfl⟩))
      go_ret
      exact Ret.mk rfl (by repeat (first | (with_reducible exact Kp.refl _) | (with_reducible assumption) | (with_reducible apply Kp.ext) | (with_reducible apply Kp.alloc) | (with_reducible apply Kp.drew) | (with_reducible apply Kp.drewN) | (with_reducible refine Kp.setCell ?_ (by first | (dsimp only; omega) | (simp; omega) | (simp; done) | (simp [size_ext_eq]; omega)) _)))
theorem boxRing_walk (ax ay bx by' : Nat) (k1 : ax < 2 ^ 64) (k2 : ay < 2 ^ 64) (k3 : bx < 2 ^ 64) (k4 : by' < 2 ^ 64) (w : World) :
    Calls Try.prog 11 #[.agg #[.float .f64 ax, .float .f64 ay], .agg #[.float .f64 bx, .float .f64 by']] w (Ret w (.bool true)) := by
  by_cases hc : (isBoxB ax ay bx by' && !eqF ax bx && !eqF ay by') = true
  · simp only [Bool.and_eq_true, Bool.not_eq_true'] at hc
    exact boxRing_yes ax ay bx by' k1 k2 k3 k4 hc.1.1 hc.1.2 hc.2 w
  · exact boxRing_no ax ay bx by' k1 k2 k3 k4 (by simpa using hc) w
end Go.Proofs.Ytdkadjjapmcadaa
