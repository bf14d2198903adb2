/-
  laws.FnBoxUnion, walked: it answers true.
-/
import Derived.Test.YtdkadjjapmcadaaUnionImpl
import Derived.Test.YtdkadjjapmcadaaPts
namespace Go.Proofs.Ytdkadjjapmcadaa
open PubFl Go.RowKit

attribute [local go_sem] cell_ext frozen_ext ext_setCell cell_store size_ext_eq lt_p0 lt_p1 lt_p2 lt_p3 lt_p4 lt_p5 lt_p6 lt_p7 lt_p8 lt_p9 lt_p10 lt_p11 lt_p12 lt_p13 lt_p14 lt_p15 lt_p16 lt_p17 lt_p18 lt_p19 lt_p20 lt_p21 lt_p22 lt_p23 lt_p24 lt_p25 lt_p26 lt_p27 lt_p28 lt_p29 lt_p30 lt_p31 lt_p32 lt_q1 lt_q2 lt_q3 lt_q4 lt_q5 lt_q6 lt_q7 lt_q8 lt_q9 lt_q10 lt_q11 lt_q12 lt_q13 lt_q14 lt_q15 lt_q16 lt_q17 lt_q18 lt_q19 lt_q20 lt_q21 lt_q22 lt_q23 lt_q24 lt_q25 lt_q26 lt_q27 lt_q28 lt_q29 lt_q30 lt_q31 lt_q32 run_fop run_store_float
attribute [local go_sem high] cmp_eql cmp_neq cmp_lss cmp_leq cmp_gtr cmp_geq

/-- a box of whole numbers -/
structure BoxI (b : Box) (x y z t : Int) : Prop where
  ax : IsV b.ax x
  ay : IsV b.ay y
  bx : IsV b.bx z
  b_y : IsV b.b_y t
  lx : x ≤ z
  ly : y ≤ t
theorem BoxI.extend {b : Box} {x y z t p q : Int} {px py : Nat} (h : BoxI b x y z t) (hp : IsV px p) (hq : IsV py q) : BoxI (b.extend px py) (min x p) (min y q) (max z p) (max t q) := by
  have l1 := h.lx
  have l2 := h.ly
  by_cases c : hasB b.ax b.ay b.bx b.b_y px py = true
  · have e : b.extend px py = b := by unfold Box.extend; rw [if_pos c]
    unfold hasB at c
    rw [ltF_int hq h.ay, ltF_int h.b_y hq, ltF_int hp h.ax, ltF_int h.bx hp] at c
    simp at c
    rw [e, show min x p = x by omega, show min y q = y by omega, show max z p = z by omega, show max t q = t by omega]
    exact h
  · have e : b.extend px py = ⟨minF b.ax px, minF b.ay py, maxF b.bx px, maxF b.b_y py⟩ := by unfold Box.extend; rw [if_neg c]
    rw [e]
    exact ⟨minF_int h.ax hp, minF_int h.ay hq, maxF_int h.bx hp, maxF_int h.b_y hq, by omega, by omega⟩
theorem BoxI.nonempty {b : Box} {x y z t : Int} (h : BoxI b x y z t) : emptyB b.ax b.ay b.bx b.b_y = false := by
  unfold emptyB
  have l1 := h.lx
  have l2 := h.ly
  rw [gtF_int h.ax h.bx, gtF_int h.ay h.b_y]
  simp; omega

/-- what both laws of boxes come to -/
structure UnionFacts (ax ay bx by' cx cy dx dy : Nat) (b4 b1 : Box) : Prop where
  hu : ∀ w, Calls Try.prog 70 #[.agg #[.float .f64 ax, .float .f64 ay, .float .f64 bx, .float .f64 by'], .agg #[.float .f64 cx, .float .f64 cy, .float .f64 dx, .float .f64 dy]] w (Ret w (.agg #[.float .f64 b4.ax, .float .f64 b4.ay, .float .f64 b4.bx, .float .f64 b4.b_y]))
  he : ∀ w, Calls Try.prog 71 #[.agg #[.float .f64 ax, .float .f64 ay, .float .f64 bx, .float .f64 by'], .agg #[.float .f64 cx, .float .f64 cy]] w (Ret w (.agg #[.float .f64 b1.ax, .float .f64 b1.ay, .float .f64 b1.bx, .float .f64 b1.b_y]))
  l4 : eqF b4.ax (lowF (ax, ay) [(ax, ay), (bx, by'), (cx, cy), (dx, dy)]).1 = true ∧ eqF b4.ay (lowF (ax, ay) [(ax, ay), (bx, by'), (cx, cy), (dx, dy)]).2 = true
  h4 : eqF b4.bx (highF (ax, ay) [(ax, ay), (bx, by'), (cx, cy), (dx, dy)]).1 = true ∧ eqF b4.b_y (highF (ax, ay) [(ax, ay), (bx, by'), (cx, cy), (dx, dy)]).2 = true
  l1 : eqF b1.ax (lowF (ax, ay) [(ax, ay), (bx, by'), (cx, cy)]).1 = true ∧ eqF b1.ay (lowF (ax, ay) [(ax, ay), (bx, by'), (cx, cy)]).2 = true
  h1 : eqF b1.bx (highF (ax, ay) [(ax, ay), (bx, by'), (cx, cy)]).1 = true ∧ eqF b1.b_y (highF (ax, ay) [(ax, ay), (bx, by'), (cx, cy)]).2 = true

theorem union_facts {ax ay bx by' cx cy dx dy : Nat} (k1 : ax < 2 ^ 64) (k2 : ay < 2 ^ 64) (k3 : bx < 2 ^ 64) (k4 : by' < 2 ^ 64) (k5 : cx < 2 ^ 64) (k6 : cy < 2 ^ 64) (k7 : dx < 2 ^ 64) (k8 : dy < 2 ^ 64)
    (c1 : isBoxB ax ay bx by' = true) (c2 : isBoxB cx cy dx dy = true) : ∃ b4 b1, UnionFacts ax ay bx by' cx cy dx dy b4 b1 := by
  obtain ⟨q1, q2, q3, q4⟩ := isBoxB_points c1
  obtain ⟨q5, q6, q7, q8⟩ := isBoxB_points c2
  obtain ⟨a, b, i1, i2, _, _⟩ := pointB_int k1 k2 q1
  obtain ⟨c, d, i3, i4, _, _⟩ := pointB_int k3 k4 q2
  obtain ⟨e, f, i5, i6, _, _⟩ := pointB_int k5 k6 q5
  obtain ⟨g, h, i7, i8, _, _⟩ := pointB_int k7 k8 q6
  rw [leF_int i1 i3] at q3
  rw [leF_int i2 i4] at q4
  rw [leF_int i5 i7] at q7
  rw [leF_int i6 i8] at q8
  simp only [decide_eq_true_eq] at q3 q4 q7 q8
  have B0 : BoxI ⟨ax, ay, bx, by'⟩ a b c d := ⟨i1, i2, i3, i4, q3, q4⟩
  have D0 : BoxI ⟨cx, cy, dx, dy⟩ e f g h := ⟨i5, i6, i7, i8, q7, q8⟩
  have B1 := B0.extend i5 i6
  have B2 := B1.extend i7 i8
  have B3 := B2.extend i5 i8
  have B4 := B3.extend i7 i6
  refine ⟨_, _, fun w => union_c ax ay bx by' cx cy dx dy _ _ _ _ w B0.nonempty D0.nonempty rfl B1.nonempty rfl B2.nonempty rfl B3.nonempty rfl, fun w => extend_c ax ay bx by' cx cy w B0.nonempty, ?_, ?_, ?_, ?_⟩
  · have v1 := minF_int (minF_int (minF_int (minF_int i1 i1) i3) i5) i7
    have v2 := minF_int (minF_int (minF_int (minF_int i2 i2) i4) i6) i8
    constructor
    · exact (eqF_int B4.ax v1).trans (by simp; omega)
    · exact (eqF_int B4.ay v2).trans (by simp; omega)
  · have v1 := maxF_int (maxF_int (maxF_int (maxF_int i1 i1) i3) i5) i7
    have v2 := maxF_int (maxF_int (maxF_int (maxF_int i2 i2) i4) i6) i8
    constructor
    · exact (eqF_int B4.bx v1).trans (by simp; omega)
    · exact (eqF_int B4.b_y v2).trans (by simp; omega)
  · have v1 := minF_int (minF_int (minF_int i1 i1) i3) i5
    have v2 := minF_int (minF_int (minF_int i2 i2) i4) i6
    constructor
    · exact (eqF_int B1.ax v1).trans (by simp; omega)
    · exact (eqF_int B1.ay v2).trans (by simp; omega)
  · have v1 := maxF_int (maxF_int (maxF_int i1 i1) i3) i5
    have v2 := maxF_int (maxF_int (maxF_int i2 i2) i4) i6
    constructor
    · exact (eqF_int B1.bx v1).trans (by simp; omega)
    · exact (eqF_int B1.b_y v2).trans (by simp; omega)

set_option maxHeartbeats 3000000 in
theorem unionLaw_in (ax ay bx by' cx cy dx dy : Nat) (k1 : ax < 2 ^ 64) (k2 : ay < 2 ^ 64) (k3 : bx < 2 ^ 64) (k4 : by' < 2 ^ 64) (k5 : cx < 2 ^ 64) (k6 : cy < 2 ^ 64) (k7 : dx < 2 ^ 64) (k8 : dy < 2 ^ 64) (w : World)
    (c1 : isBoxB ax ay bx by' = true) (c2 : isBoxB cx cy dx dy = true) :
    Calls Try.prog 12 #[.agg #[.float .f64 ax, .float .f64 ay], .agg #[.float .f64 bx, .float .f64 by'], .agg #[.float .f64 cx, .float .f64 cy], .agg #[.float .f64 dx, .float .f64 dy]] w (Ret w (.bool true)) := by
  obtain ⟨b4, b1, hu, he, ⟨f1, f2⟩, ⟨f3, f4⟩, ⟨f5, f6⟩, f7, f8⟩ := union_facts k1 k2 k3 k4 k5 k6 k7 k8 c1 c2
  have Hu := Lib.hid hu
  have He := Lib.hid he
  clear hu he
  have heq := run_eql_pt
  obtain ⟨⟨lx, ly⟩, e1⟩ : ∃ q, lowF (ax, ay) [(ax, ay), (bx, by'), (cx, cy), (dx, dy)] = q := ⟨_, rfl⟩
  obtain ⟨⟨hx, hy⟩, e2⟩ : ∃ q, highF (ax, ay) [(ax, ay), (bx, by'), (cx, cy), (dx, dy)] = q := ⟨_, rfl⟩
  obtain ⟨⟨lx', ly'⟩, e3⟩ : ∃ q, lowF (ax, ay) [(ax, ay), (bx, by'), (cx, cy)] = q := ⟨_, rfl⟩
  obtain ⟨⟨hx', hy'⟩, e4⟩ : ∃ q, highF (ax, ay) [(ax, ay), (bx, by'), (cx, cy)] = q := ⟨_, rfl⟩
  rw [e1] at f1 f2
  rw [e2] at f3 f4
  rw [e3] at f5 f6
  rw [e4] at f7 f8
  have G4 := fun b w hb hs => boxOf_c b 0 4 ax ay [(ax, ay), (bx, by'), (cx, cy), (dx, dy)] (by simp) rfl w hb (by simp) hs
  have G3 := fun b w hb hs => boxOf_c b 0 3 ax ay [(ax, ay), (bx, by'), (cx, cy)] (by simp) rfl w hb (by simp) hs
  rw [e1, e2] at G4
  rw [e3, e4] at G3
  have H4 := Lib.hid G4
  have H3 := Lib.hid G3
  clear G4 G3 e1 e2 e3 e4
  go_enter Try.func12, Try.ntmps12
  go_wp2_with (first | (go_at_call 19; (first | (with_reducible refine (Ret.at_ext (isBox_c _ _ _ _ (by assumption) (by assumption) (by assumption) (by assumption) _)).mono ?_) | refine (isBox_c _ _ _ _ (by assumption) (by assumption) (by assumption) (by assumption) _).mono ?_); rintro e w' ⟨rfl, u, rfl⟩) | (go_at_call 41; (first | (with_reducible refine (Ret.at_ext (boxUnion_c _ _ _ _ _ _ _ _ b4 _ Hu)).mono ?_) | refine (boxUnion_c _ _ _ _ _ _ _ _ b4 _ Hu).mono ?_); rintro e w' ⟨rfl, u, rfl⟩))
  refine (H4.out _ _ ?_ ?_).mono ?_
  · simp [go_sem]
  · intro i hi
    have : i = 0 ∨ i = 1 ∨ i = 2 ∨ i = 3 := by simp at hi; omega
    rcases this with rfl | rfl | rfl | rfl <;> exact ⟨by simp [go_sem], by simp [go_sem]⟩
  rintro e w' ⟨rfl, u, rfl⟩
  go_wp2_with (go_at_call 42; (first | (with_reducible refine (Ret.at_ext (boxWith_c _ _ _ _ _ _ b1 _ He)).mono ?_) | refine (boxWith_c _ _ _ _ _ _ b1 _ He).mono ?_); rintro e w' ⟨rfl, u, rfl⟩)
  refine (H3.out _ _ ?_ ?_).mono ?_
  · simp [go_sem]
  · intro i hi
    have : i = 0 ∨ i = 1 ∨ i = 2 := by simp at hi; omega
    rcases this with rfl | rfl | rfl <;> exact ⟨by simp [go_sem], by simp [go_sem]⟩
  rintro e w' ⟨rfl, u, rfl⟩
  go_wp2_with (go_at_call 21; (first | (with_reducible refine (Ret.at_ext (boxes_c _)).mono ?_) | refine (boxes_c _).mono ?_); rintro e w' ⟨rfl, u, rfl⟩)
  go_ret
  exact Ret.mk rfl (by repeat (first | (with_reducible exact Kp.refl _) | (with_reducible assumption) | (with_reducible apply Kp.ext) | (with_reducible apply Kp.alloc) | (with_reducible apply Kp.drew) | (with_reducible apply Kp.drewN) | (with_reducible refine Kp.setCell ?_ (by first | (dsimp only; omega) | (simp; omega) | (simp; done) | (simp [size_ext_eq]; omega)) _)))

theorem unionLaw (ax ay bx by' cx cy dx dy : Nat) (h1 : ax < 2 ^ 64) (h2 : ay < 2 ^ 64) (h3 : bx < 2 ^ 64) (h4 : by' < 2 ^ 64) (h5 : cx < 2 ^ 64) (h6 : cy < 2 ^ 64) (h7 : dx < 2 ^ 64) (h8 : dy < 2 ^ 64) (w : World) :
    Calls Try.prog 12 #[.agg #[.float .f64 ax, .float .f64 ay], .agg #[.float .f64 bx, .float .f64 by'], .agg #[.float .f64 cx, .float .f64 cy], .agg #[.float .f64 dx, .float .f64 dy]] w (Ret w (.bool true)) := by
  by_cases hc : isBoxB ax ay bx by' = true ∧ isBoxB cx cy dx dy = true
  · exact unionLaw_in ax ay bx by' cx cy dx dy h1 h2 h3 h4 h5 h6 h7 h8 w hc.1 hc.2
  · cases c1 : isBoxB ax ay bx by'
    · clear hc
      go_enter Try.func12, Try.ntmps12
      go_wp2_with (first | (go_at_call 19; (first | (with_reducible refine (Ret.at_ext (isBox_c _ _ _ _ (by assumption) (by assumption) (by assumption) (by assumption) _)).mono ?_) | refine (isBox_c _ _ _ _ (by assumption) (by assumption) (by assumption) (by assumption) _).mono ?_); rintro e w' ⟨rfl, u, rfl⟩) | (go_at_call 21; (first | (with_reducible refine (Ret.at_ext (boxes_c _)).mono ?_) | refine (boxes_c _).mono ?_); rintro e w' ⟨rfl, u, rfl⟩))
      go_ret
      exact Ret.mk rfl (by repeat (first | (with_reducible exact Kp.refl _) | (with_reducible assumption) | (with_reducible apply Kp.ext) | (with_reducible apply Kp.alloc) | (with_reducible apply Kp.drew) | (with_reducible apply Kp.drewN) | (with_reducible refine Kp.setCell ?_ (by first | (dsimp only; omega) | (simp; omega) | (simp; done) | (simp [size_ext_eq]; omega)) _)))
    · have c2 : isBoxB cx cy dx dy = false := by simpa [c1] using hc
      clear hc
      go_enter Try.func12, Try.ntmps12
      go_wp2_with (first | (go_at_call 19; (first | (with_reducible refine (Ret.at_ext (isBox_c _ _ _ _ (by assumption) (by assumption) (by assumption) (by assumption) _)).mono ?_) | refine (isBox_c _ _ _ _ (by assumption) (by assumption) (by assumption) (by assumption) _).mono ?_); rintro e w' ⟨rfl, u, rfl⟩) | (go_at_call 21; (first | (with_reducible refine (Ret.at_ext (boxes_c _)).mono ?_) | refine (boxes_c _).mono ?_); rintro e w' ⟨rfl, u, rfl⟩))
      go_ret
      exact Ret.mk rfl (by repeat (first | (with_reducible exact Kp.refl _) | (with_reducible assumption) | (with_reducible apply Kp.ext) | (with_reducible apply Kp.alloc) | (with_reducible apply Kp.drew) | (with_reducible apply Kp.drewN) | (with_reducible refine Kp.setCell ?_ (by first | (dsimp only; omega) | (simp; omega) | (simp; done) | (simp [size_ext_eq]; omega)) _)))
end Go.Proofs.Ytdkadjjapmcadaa
