/-
  The functions on points and boxes, walked.
  laws.FnBoxHas, walked: it answers true.
  laws.FnBoxesMeet, walked: it answers true.
  Distances of points: walked, and what they are for points with whole coordinates.
  spec.Cross on whole numbers.
-/
import Derived.Test.YtohidpmkoehmcaaGreatDoorWm
set_option linter.all false
namespace Go.Proofs.YtohidpmkoehmcaaGreatDoor
open PubFl

attribute [local go_sem] cell_ext frozen_ext ext_setCell cell_store size_ext_eq lt_p0 lt_p1 lt_p2 lt_p3 lt_p4 lt_p5 lt_p6 lt_p7 lt_p8 lt_p9 lt_p10 lt_p11 lt_p12 lt_p13 lt_p14 lt_p15 lt_p16 lt_p17 lt_p18 lt_p19 lt_p20 lt_p21 lt_p22 lt_p23 lt_p24 lt_p25 lt_p26 lt_p27 lt_p28 lt_p29 lt_p30 lt_p31 lt_p32 lt_q1 lt_q2 lt_q3 lt_q4 lt_q5 lt_q6 lt_q7 lt_q8 lt_q9 lt_q10 lt_q11 lt_q12 lt_q13 lt_q14 lt_q15 lt_q16 lt_q17 lt_q18 lt_q19 lt_q20 lt_q21 lt_q22 lt_q23 lt_q24 lt_q25 lt_q26 lt_q27 lt_q28 lt_q29 lt_q30 lt_q31 lt_q32 run_fop run_store_float
attribute [local go_sem high] cmp_eql cmp_neq cmp_lss cmp_leq cmp_gtr cmp_geq

/-- IsPoint -/
def pointB (x y : Nat) : Bool := wholeB x && wholeB y
theorem point_c (x y : Nat) (hx : x < 2 ^ 64) (hy : y < 2 ^ 64) (w : World) : Calls Tryz.prog 46 #[.agg #[.float .f64 x, .float .f64 y]] w (Ret w (.bool (pointB x y))) := by
  cases h1 : wholeB x
  · have hr : pointB x y = false := by unfold pointB; simp [h1]
    rw [hr]
    go_enter Tryz.func46, Tryz.ntmps46
    go_wp2_with (go_at_call 56; (first | (with_reducible refine (Ret.at_ext (whole_c _ (by assumption) _)).mono ?_) | refine (whole_c _ (by assumption) _).mono ?_); rintro e w' ⟨rfl, u, rfl⟩)
    go_ret
    exact Ret.mk rfl (by repeat (first | (with_reducible exact Kp.refl _) | (with_reducible assumption) | (with_reducible apply Kp.ext) | (with_reducible apply Kp.alloc) | (with_reducible apply Kp.drew) | (with_reducible apply Kp.drewN) | (with_reducible refine Kp.setCell ?_ (by first | (dsimp only; omega) | (simp; omega) | (simp; done) | (simp [size_ext_eq]; omega)) _)))
  · have hr : pointB x y = wholeB y := by unfold pointB; simp [h1]
    rw [hr]
    go_enter Tryz.func46, Tryz.ntmps46
    go_wp2_with (go_at_call 56; (first | (with_reducible refine (Ret.at_ext (whole_c _ (by assumption) _)).mono ?_) | refine (whole_c _ (by assumption) _).mono ?_); rintro e w' ⟨rfl, u, rfl⟩)
    go_ret
    exact Ret.mk rfl (by repeat (first | (with_reducible exact Kp.refl _) | (with_reducible assumption) | (with_reducible apply Kp.ext) | (with_reducible apply Kp.alloc) | (with_reducible apply Kp.drew) | (with_reducible apply Kp.drewN) | (with_reducible refine Kp.setCell ?_ (by first | (dsimp only; omega) | (simp; omega) | (simp; done) | (simp [size_ext_eq]; omega)) _)))

/-- Contains -/
def hasB (ax ay bx by' px py : Nat) : Bool := !(ltF py ay || ltF by' py) && !(ltF px ax || ltF bx px)
theorem contains_c (ax ay bx by' px py : Nat) (w : World) : Calls Tryz.prog 37 #[.agg #[.float .f64 ax, .float .f64 ay, .float .f64 bx, .float .f64 by'], .agg #[.float .f64 px, .float .f64 py]] w (Ret w (.bool (hasB ax ay bx by' px py))) := by
  cases h1 : ltF py ay <;> cases h2 : ltF by' py <;> cases h3 : ltF px ax <;> cases h4 : ltF bx px
  all_goals
    have hr : hasB ax ay bx by' px py = (!(ltF py ay || ltF by' py) && !(ltF px ax || ltF bx px)) := rfl
    rw [h1, h2, h3, h4] at hr
    rw [hr]
    clear hr
    go_enter Tryz.func37, Tryz.ntmps37
    go_wp2
    go_ret
    exact Ret.mk rfl (by repeat (first | (with_reducible exact Kp.refl _) | (with_reducible assumption) | (with_reducible apply Kp.ext) | (with_reducible apply Kp.alloc) | (with_reducible apply Kp.drew) | (with_reducible apply Kp.drewN) | (with_reducible refine Kp.setCell ?_ (by first | (dsimp only; omega) | (simp; omega) | (simp; done) | (simp [size_ext_eq]; omega)) _)))

/-- laws.isBox -/
def isBoxB (ax ay bx by' : Nat) : Bool := pointB ax ay && pointB bx by' && leF ax bx && leF ay by'
end Go.Proofs.YtohidpmkoehmcaaGreatDoor

set_option linter.all false
namespace Go.Proofs.YtohidpmkoehmcaaGreatDoor
open PubFl

attribute [local go_sem] cell_ext frozen_ext ext_setCell cell_store size_ext_eq lt_p0 lt_p1 lt_p2 lt_p3 lt_p4 lt_p5 lt_p6 lt_p7 lt_p8 lt_p9 lt_p10 lt_p11 lt_p12 lt_p13 lt_p14 lt_p15 lt_p16 lt_p17 lt_p18 lt_p19 lt_p20 lt_p21 lt_p22 lt_p23 lt_p24 lt_p25 lt_p26 lt_p27 lt_p28 lt_p29 lt_p30 lt_p31 lt_p32 lt_q1 lt_q2 lt_q3 lt_q4 lt_q5 lt_q6 lt_q7 lt_q8 lt_q9 lt_q10 lt_q11 lt_q12 lt_q13 lt_q14 lt_q15 lt_q16 lt_q17 lt_q18 lt_q19 lt_q20 lt_q21 lt_q22 lt_q23 lt_q24 lt_q25 lt_q26 lt_q27 lt_q28 lt_q29 lt_q30 lt_q31 lt_q32 run_fop run_store_float
attribute [local go_sem high] cmp_eql cmp_neq cmp_lss cmp_leq cmp_gtr cmp_geq

theorem pointB_int {x y : Nat} (hx : x < 2 ^ 64) (hy : y < 2 ^ 64) (h : pointB x y = true) : ∃ a b : Int, IsV x a ∧ IsV y b ∧ (-1000 ≤ a ∧ a ≤ 1000) ∧ (-1000 ≤ b ∧ b ≤ 1000) := by
  unfold pointB at h
  simp only [Bool.and_eq_true] at h
  obtain ⟨a, h1, h2, h3, _⟩ := wholeB_int hx h.1
  obtain ⟨b, h4, h5, h6, _⟩ := wholeB_int hy h.2
  exact ⟨a, b, h1, h4, ⟨h2, h3⟩, h5, h6⟩
theorem isBoxB_points {ax ay bx by' : Nat} (h : isBoxB ax ay bx by' = true) : pointB ax ay = true ∧ pointB bx by' = true ∧ leF ax bx = true ∧ leF ay by' = true := by
  unfold isBoxB at h; simpa [and_assoc] using h

theorem hasB_le {ax ay bx by' px py : Nat} (h1 : ax < 2 ^ 64) (h2 : ay < 2 ^ 64) (h3 : bx < 2 ^ 64) (h4 : by' < 2 ^ 64) (h5 : px < 2 ^ 64) (h6 : py < 2 ^ 64)
    (c1 : pointB ax ay = true) (c2 : pointB bx by' = true) (c3 : pointB px py = true) : hasB ax ay bx by' px py = (leF ax px && leF px bx && leF ay py && leF py by') := by
  obtain ⟨a, b, i1, i2, _, _⟩ := pointB_int h1 h2 c1
  obtain ⟨c, d, i3, i4, _, _⟩ := pointB_int h3 h4 c2
  obtain ⟨p, q, i5, i6, _, _⟩ := pointB_int h5 h6 c3
  unfold hasB
  rw [ltF_int i6 i2, ltF_int i4 i6, ltF_int i5 i1, ltF_int i3 i5, leF_int i1 i5, leF_int i5 i3, leF_int i2 i6, leF_int i6 i4]
  rw [Bool.eq_iff_iff]
  simp
  omega

end Go.Proofs.YtohidpmkoehmcaaGreatDoor

set_option linter.all false
namespace Go.Proofs.YtohidpmkoehmcaaGreatDoor
open PubFl

attribute [local go_sem] cell_ext frozen_ext ext_setCell cell_store size_ext_eq lt_p0 lt_p1 lt_p2 lt_p3 lt_p4 lt_p5 lt_p6 lt_p7 lt_p8 lt_p9 lt_p10 lt_p11 lt_p12 lt_p13 lt_p14 lt_p15 lt_p16 lt_p17 lt_p18 lt_p19 lt_p20 lt_p21 lt_p22 lt_p23 lt_p24 lt_p25 lt_p26 lt_p27 lt_p28 lt_p29 lt_p30 lt_p31 lt_p32 lt_q1 lt_q2 lt_q3 lt_q4 lt_q5 lt_q6 lt_q7 lt_q8 lt_q9 lt_q10 lt_q11 lt_q12 lt_q13 lt_q14 lt_q15 lt_q16 lt_q17 lt_q18 lt_q19 lt_q20 lt_q21 lt_q22 lt_q23 lt_q24 lt_q25 lt_q26 lt_q27 lt_q28 lt_q29 lt_q30 lt_q31 lt_q32 run_fop run_store_float
attribute [local go_sem high] cmp_eql cmp_neq cmp_lss cmp_leq cmp_gtr cmp_geq

/-- IsEmpty -/
def emptyB (ax ay bx by' : Nat) : Bool := gtF ax bx || gtF ay by'
theorem isEmpty_c (ax ay bx by' : Nat) (w : World) : Calls Tryz.prog 65 #[.agg #[.float .f64 ax, .float .f64 ay, .float .f64 bx, .float .f64 by']] w (Ret w (.bool (emptyB ax ay bx by'))) := by
  have hr : emptyB ax ay bx by' = (gtF ax bx || gtF ay by') := rfl
  cases d1 : gtF ax bx
  · cases d2 : gtF ay by'
    · simp [d1, d2] at hr
      rw [hr]
      clear hr
      go_enter Tryz.func65, Tryz.ntmps65
      go_wp2
      go_ret
      exact Ret.mk rfl (by repeat (first | (with_reducible exact Kp.refl _) | (with_reducible assumption) | (with_reducible apply Kp.ext) | (with_reducible apply Kp.alloc) | (with_reducible apply Kp.drew) | (with_reducible apply Kp.drewN) | (with_reducible refine Kp.setCell ?_ (by first | (dsimp only; omega) | (simp; omega) | (simp; done) | (simp [size_ext_eq]; omega)) _)))
    · simp [d1, d2] at hr
      rw [hr]
      clear hr
      go_enter Tryz.func65, Tryz.ntmps65
      go_wp2
      go_ret
      exact Ret.mk rfl (by repeat (first | (with_reducible exact Kp.refl _) | (with_reducible assumption) | (with_reducible apply Kp.ext) | (with_reducible apply Kp.alloc) | (with_reducible apply Kp.drew) | (with_reducible apply Kp.drewN) | (with_reducible refine Kp.setCell ?_ (by first | (dsimp only; omega) | (simp; omega) | (simp; done) | (simp [size_ext_eq]; omega)) _)))
  · simp [d1] at hr
    rw [hr]
    clear hr
    go_enter Tryz.func65, Tryz.ntmps65
    go_wp2
    go_ret
    exact Ret.mk rfl (by repeat (first | (with_reducible exact Kp.refl _) | (with_reducible assumption) | (with_reducible apply Kp.ext) | (with_reducible apply Kp.alloc) | (with_reducible apply Kp.drew) | (with_reducible apply Kp.drewN) | (with_reducible refine Kp.setCell ?_ (by first | (dsimp only; omega) | (simp; omega) | (simp; done) | (simp [size_ext_eq]; omega)) _)))

/-- Intersects, of boxes that are none of them empty -/
def meetB (ax ay bx by' cx cy dx dy : Nat) : Bool := !(ltF bx cx || gtF ax dx || ltF by' cy || gtF ay dy)
theorem isBoxB_empty {ax ay bx by' : Nat} (h1 : ax < 2 ^ 64) (h2 : ay < 2 ^ 64) (h3 : bx < 2 ^ 64) (h4 : by' < 2 ^ 64) (h : isBoxB ax ay bx by' = true) : emptyB ax ay bx by' = false := by
  obtain ⟨b1, b2, b3, b4⟩ := isBoxB_points h
  obtain ⟨a, b, i1, i2, _, _⟩ := pointB_int h1 h2 b1
  obtain ⟨c, d, i3, i4, _, _⟩ := pointB_int h3 h4 b2
  rw [leF_int i1 i3] at b3
  rw [leF_int i2 i4] at b4
  unfold emptyB
  rw [gtF_int i1 i3, gtF_int i2 i4]
  simp at b3 b4 ⊢
  omega
theorem meetB_le {ax ay bx by' cx cy dx dy : Nat} (h1 : ax < 2 ^ 64) (h2 : ay < 2 ^ 64) (h3 : bx < 2 ^ 64) (h4 : by' < 2 ^ 64) (h5 : cx < 2 ^ 64) (h6 : cy < 2 ^ 64) (h7 : dx < 2 ^ 64) (h8 : dy < 2 ^ 64)
    (c1 : isBoxB ax ay bx by' = true) (c2 : isBoxB cx cy dx dy = true) : meetB ax ay bx by' cx cy dx dy = (leF ax dx && leF cx bx && leF ay dy && leF cy by') := by
  obtain ⟨b1, b2, _, _⟩ := isBoxB_points c1
  obtain ⟨b3, b4, _, _⟩ := isBoxB_points c2
  obtain ⟨a, b, i1, i2, _, _⟩ := pointB_int h1 h2 b1
  obtain ⟨c, d, i3, i4, _, _⟩ := pointB_int h3 h4 b2
  obtain ⟨p, q, i5, i6, _, _⟩ := pointB_int h5 h6 b3
  obtain ⟨r, s, i7, i8, _, _⟩ := pointB_int h7 h8 b4
  unfold meetB
  rw [ltF_int i3 i5, gtF_int i1 i7, ltF_int i4 i6, gtF_int i2 i8, leF_int i1 i7, leF_int i5 i3, leF_int i2 i8, leF_int i6 i4]
  rw [Bool.eq_iff_iff]
  simp
  omega

end Go.Proofs.YtohidpmkoehmcaaGreatDoor

set_option linter.all false
namespace Go.Proofs.YtohidpmkoehmcaaGreatDoor
open PubFl

attribute [local go_sem] cell_ext frozen_ext ext_setCell cell_store size_ext_eq lt_p0 lt_p1 lt_p2 lt_p3 lt_p4 lt_p5 lt_p6 lt_p7 lt_p8 lt_p9 lt_p10 lt_p11 lt_p12 lt_p13 lt_p14 lt_p15 lt_p16 lt_p17 lt_p18 lt_p19 lt_p20 lt_p21 lt_p22 lt_p23 lt_p24 lt_p25 lt_p26 lt_p27 lt_p28 lt_p29 lt_p30 lt_p31 lt_p32 lt_q1 lt_q2 lt_q3 lt_q4 lt_q5 lt_q6 lt_q7 lt_q8 lt_q9 lt_q10 lt_q11 lt_q12 lt_q13 lt_q14 lt_q15 lt_q16 lt_q17 lt_q18 lt_q19 lt_q20 lt_q21 lt_q22 lt_q23 lt_q24 lt_q25 lt_q26 lt_q27 lt_q28 lt_q29 lt_q30 lt_q31 lt_q32 run_fop run_store_float
attribute [local go_sem high] cmp_eql cmp_neq cmp_lss cmp_leq cmp_gtr cmp_geq

theorem sq_nn (a : Int) : 0 ≤ a * a := by
  by_cases h : 0 ≤ a
  · exact Int.mul_nonneg h h
  · have := Int.mul_nonneg (show 0 ≤ -a by omega) (show 0 ≤ -a by omega)
    rw [Int.neg_mul_neg] at this; exact this

/-- the square of a distance, as the program reckons it -/
def dsqF (ax ay bx by' : Nat) : Nat := fop .add (fop .mul (fop .sub ax bx) (fop .sub ax bx)) (fop .mul (fop .sub ay by') (fop .sub ay by'))
structure DsqOk (ax ay bx by' : Nat) : Prop where
  o1 : FOk .sub ax bx
  o2 : FOk .sub ay by'
  o3 : FOk .mul (fop .sub ax bx) (fop .sub ax bx)
  o4 : FOk .mul (fop .sub ay by') (fop .sub ay by')
  o5 : FOk .add (fop .mul (fop .sub ax bx) (fop .sub ax bx)) (fop .mul (fop .sub ay by') (fop .sub ay by'))

theorem dsq_int {ax ay bx by' : Nat} {a b c d : Int} (h1 : IsV ax a) (h2 : IsV ay b) (h3 : IsV bx c) (h4 : IsV by' d)
    (b1 : -2000000 ≤ a ∧ a ≤ 2000000) (b2 : -2000000 ≤ b ∧ b ≤ 2000000) (b3 : -2000000 ≤ c ∧ c ≤ 2000000) (b4 : -2000000 ≤ d ∧ d ≤ 2000000) :
    DsqOk ax ay bx by' ∧ IsV (dsqF ax ay bx by') (((a - c) * (a - c) + (b - d) * (b - d) : Int) : Rat) := by
  obtain ⟨o1, v1⟩ := sub_int h1 h3 (by omega)
  obtain ⟨o2, v2⟩ := sub_int h2 h4 (by omega)
  have q1 : ((a - c) * (a - c)).natAbs ≤ 4000000 * 4000000 := by
    rw [Int.natAbs_mul]; exact Nat.mul_le_mul (by omega) (by omega)
  have q2 : ((b - d) * (b - d)).natAbs ≤ 4000000 * 4000000 := by
    rw [Int.natAbs_mul]; exact Nat.mul_le_mul (by omega) (by omega)
  obtain ⟨o3, v3⟩ := mul_int v1 v1 (by omega)
  obtain ⟨o4, v4⟩ := mul_int v2 v2 (by omega)
  obtain ⟨o5, v5⟩ := add_int v3 v4 (by omega)
  exact ⟨⟨o1, o2, o3, o4, o5⟩, v5⟩

theorem sqrt_c (x : Nat) (h : SOk x) (w : World) : Calls Tryz.prog 67 #[.float .f64 x] w (Ret w (.float .f64 (sqrtF x))) := by
  have hx := x_sqrt h
  go_enter Tryz.func67, Tryz.ntmps67
  go_wp2
  go_ret
  exact Ret.mk rfl (by repeat (first | (with_reducible exact Kp.refl _) | (with_reducible assumption) | (with_reducible apply Kp.ext) | (with_reducible apply Kp.alloc) | (with_reducible apply Kp.drew) | (with_reducible apply Kp.drewN) | (with_reducible refine Kp.setCell ?_ (by first | (dsimp only; omega) | (simp; omega) | (simp; done) | (simp [size_ext_eq]; omega)) _)))
theorem distance_c (ax ay bx by' : Nat) (h : DsqOk ax ay bx by') (hs : SOk (dsqF ax ay bx by')) (w : World) : Calls Tryz.prog 63 #[.agg #[.float .f64 ax, .float .f64 ay], .agg #[.float .f64 bx, .float .f64 by']] w (Ret w (.float .f64 (sqrtF (dsqF ax ay bx by')))) := by
  obtain ⟨o1, o2, o3, o4, o5⟩ := h
  go_enter Tryz.func63, Tryz.ntmps63
  go_wp2_with ((go_at_call 67; (first | (with_reducible refine (Ret.at_ext (sqrt_c _ hs _)).mono ?_) | refine (sqrt_c _ hs _).mono ?_); rintro e w' ⟨rfl, u, rfl⟩))
  go_ret
  exact Ret.mk rfl (by repeat (first | (with_reducible exact Kp.refl _) | (with_reducible assumption) | (with_reducible apply Kp.ext) | (with_reducible apply Kp.alloc) | (with_reducible apply Kp.drew) | (with_reducible apply Kp.drewN) | (with_reducible refine Kp.setCell ?_ (by first | (dsimp only; omega) | (simp; omega) | (simp; done) | (simp [size_ext_eq]; omega)) _)))
end Go.Proofs.YtohidpmkoehmcaaGreatDoor

set_option linter.all false
namespace Go.Proofs.YtohidpmkoehmcaaGreatDoor
open PubFl Go.RowKit

attribute [local go_sem] cell_ext frozen_ext ext_setCell cell_store size_ext_eq lt_p0 lt_p1 lt_p2 lt_p3 lt_p4 lt_p5 lt_p6 lt_p7 lt_p8 lt_p9 lt_p10 lt_p11 lt_p12 lt_p13 lt_p14 lt_p15 lt_p16 lt_p17 lt_p18 lt_p19 lt_p20 lt_p21 lt_p22 lt_p23 lt_p24 lt_p25 lt_p26 lt_p27 lt_p28 lt_p29 lt_p30 lt_p31 lt_p32 lt_q1 lt_q2 lt_q3 lt_q4 lt_q5 lt_q6 lt_q7 lt_q8 lt_q9 lt_q10 lt_q11 lt_q12 lt_q13 lt_q14 lt_q15 lt_q16 lt_q17 lt_q18 lt_q19 lt_q20 lt_q21 lt_q22 lt_q23 lt_q24 lt_q25 lt_q26 lt_q27 lt_q28 lt_q29 lt_q30 lt_q31 lt_q32 run_fop run_store_float
attribute [local go_sem high] cmp_eql cmp_neq cmp_lss cmp_leq cmp_gtr cmp_geq

/-- twice the area of a triangle, as the program reckons it -/
def crossF (ax ay bx by' cx cy : Nat) : Nat := fop .sub (fop .mul (fop .sub bx ax) (fop .sub cy ay)) (fop .mul (fop .sub by' ay) (fop .sub cx ax))
structure CrossOk (ax ay bx by' cx cy : Nat) : Prop where
  o1 : FOk .sub bx ax
  o2 : FOk .sub cy ay
  o3 : FOk .mul (fop .sub bx ax) (fop .sub cy ay)
  o4 : FOk .sub by' ay
  o5 : FOk .sub cx ax
  o6 : FOk .mul (fop .sub by' ay) (fop .sub cx ax)
  o7 : FOk .sub (fop .mul (fop .sub bx ax) (fop .sub cy ay)) (fop .mul (fop .sub by' ay) (fop .sub cx ax))
def crossI (a b c d e f : Int) : Int := (c - a) * (f - b) - (d - b) * (e - a)

theorem cross_int {ax ay bx by' cx cy : Nat} {a b c d e f : Int} (h1 : IsV ax a) (h2 : IsV ay b) (h3 : IsV bx c) (h4 : IsV by' d) (h5 : IsV cx e) (h6 : IsV cy f)
    (b1 : -2000 ≤ a ∧ a ≤ 2000) (b2 : -2000 ≤ b ∧ b ≤ 2000) (b3 : -2000 ≤ c ∧ c ≤ 2000) (b4 : -2000 ≤ d ∧ d ≤ 2000) (b5 : -2000 ≤ e ∧ e ≤ 2000) (b6 : -2000 ≤ f ∧ f ≤ 2000) :
    CrossOk ax ay bx by' cx cy ∧ IsV (crossF ax ay bx by' cx cy) (crossI a b c d e f : Int) ∧ -32000000 ≤ crossI a b c d e f ∧ crossI a b c d e f ≤ 32000000 := by
  have q : ∀ x y : Int, (-4000 ≤ x ∧ x ≤ 4000) → (-4000 ≤ y ∧ y ≤ 4000) → -16000000 ≤ x * y ∧ x * y ≤ 16000000 := fun x y hx hy => by
    have h1 : (x * y).natAbs ≤ 4000 * 4000 := by rw [Int.natAbs_mul]; exact Nat.mul_le_mul (by omega) (by omega)
    omega
  have q1 := q (c - a) (f - b) (by omega) (by omega)
  have q2 := q (d - b) (e - a) (by omega) (by omega)
  obtain ⟨o1, v1⟩ := sub_int h3 h1 (by omega)
  obtain ⟨o2, v2⟩ := sub_int h6 h2 (by omega)
  obtain ⟨o3, v3⟩ := mul_int v1 v2 (by omega)
  obtain ⟨o4, v4⟩ := sub_int h4 h2 (by omega)
  obtain ⟨o5, v5⟩ := sub_int h5 h1 (by omega)
  obtain ⟨o6, v6⟩ := mul_int v4 v5 (by omega)
  obtain ⟨o7, v7⟩ := sub_int v3 v6 (by omega)
  unfold crossI
  exact ⟨⟨o1, o2, o3, o4, o5, o6, o7⟩, v7, by omega, by omega⟩

theorem cross_c (ax ay bx by' cx cy : Nat) (h : CrossOk ax ay bx by' cx cy) (w : World) :
    Calls Tryz.prog 33 #[.agg #[.float .f64 ax, .float .f64 ay], .agg #[.float .f64 bx, .float .f64 by'], .agg #[.float .f64 cx, .float .f64 cy]] w (Ret w (.float .f64 (crossF ax ay bx by' cx cy))) := by
  obtain ⟨o1, o2, o3, o4, o5, o6, o7⟩ := h
  go_enter Tryz.func33, Tryz.ntmps33
  go_wp2_with fail
  go_ret
  exact Ret.mk rfl (by repeat (first | (with_reducible exact Kp.refl _) | (with_reducible assumption) | (with_reducible apply Kp.ext) | (with_reducible apply Kp.alloc) | (with_reducible apply Kp.drew) | (with_reducible apply Kp.drewN) | (with_reducible refine Kp.setCell ?_ (by first | (dsimp only; omega) | (simp; omega) | (simp; done) | (simp [size_ext_eq]; omega)) _)))
end Go.Proofs.YtohidpmkoehmcaaGreatDoor
