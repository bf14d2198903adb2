/-
  spec.OnSegment and spec.meet on whole numbers.
-/
import Derived.Test.YtohidpmkoehmcaaGreatDoorMG1
import Derived.Test.YtohidpmkoehmcaaGreatDoorMG4
import Derived.Test.YtohidpmkoehmcaaGreatDoorMG2
set_option linter.all false
namespace Go.Proofs.YtohidpmkoehmcaaGreatDoor
open PubFl Go.RowKit

attribute [local go_sem] cell_ext frozen_ext ext_setCell cell_store size_ext_eq lt_p0 lt_p1 lt_p2 lt_p3 lt_p4 lt_p5 lt_p6 lt_p7 lt_p8 lt_p9 lt_p10 lt_p11 lt_p12 lt_p13 lt_p14 lt_p15 lt_p16 lt_p17 lt_p18 lt_p19 lt_p20 lt_p21 lt_p22 lt_p23 lt_p24 lt_p25 lt_p26 lt_p27 lt_p28 lt_p29 lt_p30 lt_p31 lt_p32 lt_q1 lt_q2 lt_q3 lt_q4 lt_q5 lt_q6 lt_q7 lt_q8 lt_q9 lt_q10 lt_q11 lt_q12 lt_q13 lt_q14 lt_q15 lt_q16 lt_q17 lt_q18 lt_q19 lt_q20 lt_q21 lt_q22 lt_q23 lt_q24 lt_q25 lt_q26 lt_q27 lt_q28 lt_q29 lt_q30 lt_q31 lt_q32 run_fop run_store_float
attribute [local go_sem high] cmp_eql cmp_neq cmp_lss cmp_leq cmp_gtr cmp_geq

/-- a point is on a segment -/
def onSegB (ax ay bx by' px py : Nat) : Bool := eqF (crossF ax ay bx by' px py) 0 && geF px (minF ax bx) && leF px (maxF ax bx) && geF py (minF ay by') && leF py (maxF ay by')
def onSegI (a b p : Int × Int) : Bool := decide (crossI a.1 a.2 b.1 b.2 p.1 p.2 = 0) && decide (min a.1 b.1 ≤ p.1) && decide (p.1 ≤ max a.1 b.1) && decide (min a.2 b.2 ≤ p.2) && decide (p.2 ≤ max a.2 b.2)

/-- a word each for the coordinates of a point -/
structure PtV (x y : Nat) (p : Int × Int) : Prop where
  x : IsV x (p.1 : Rat)
  y : IsV y (p.2 : Rat)
  bx : -1000 ≤ p.1 ∧ p.1 ≤ 1000
  b_y : -1000 ≤ p.2 ∧ p.2 ≤ 1000

theorem PtV.cross {ax ay bx by' px py : Nat} {a b p : Int × Int} (ha : PtV ax ay a) (hb : PtV bx by' b) (hp : PtV px py p) :
    CrossOk ax ay bx by' px py ∧ IsV (crossF ax ay bx by' px py) (crossI a.1 a.2 b.1 b.2 p.1 p.2 : Int) := by
  obtain ⟨a1, a2, a3, a4⟩ := ha
  obtain ⟨b1, b2, b3, b4⟩ := hb
  obtain ⟨p1, p2, p3, p4⟩ := hp
  obtain ⟨h1, h2, _⟩ := cross_int a1 a2 b1 b2 p1 p2 (by omega) (by omega) (by omega) (by omega) (by omega) (by omega)
  exact ⟨h1, h2⟩
theorem PtV.onSeg {ax ay bx by' px py : Nat} {a b p : Int × Int} (ha : PtV ax ay a) (hb : PtV bx by' b) (hp : PtV px py p) : onSegB ax ay bx by' px py = onSegI a b p := by
  unfold onSegB onSegI
  rw [eqF_int (ha.cross hb hp).2 zero_isV, geF_int hp.x (minF_int ha.x hb.x), leF_int hp.x (maxF_int ha.x hb.x), geF_int hp.y (minF_int ha.y hb.y), leF_int hp.y (maxF_int ha.y hb.y)]

set_option maxHeartbeats 1000000 in
theorem onSegF_c (ax ay bx by' px py : Nat) (h : CrossOk ax ay bx by' px py) (w : World) :
    Calls Tryz.prog 22 #[.agg #[.float .f64 ax, .float .f64 ay], .agg #[.float .f64 bx, .float .f64 by'], .agg #[.float .f64 px, .float .f64 py]] w (Ret w (.bool (onSegB ax ay bx by' px py))) := by
  obtain ⟨r, hr⟩ : ∃ r, onSegB ax ay bx by' px py = r := ⟨_, rfl⟩
  rw [hr]
  unfold onSegB at hr
  cases c0 : eqF (crossF ax ay bx by' px py) 0
  · simp [c0] at hr
    subst hr
    go_enter Tryz.func22, Tryz.ntmps22
    go_wp2_with fail
    first | (with_reducible refine wp_region_ext_lit2 ?_ ?_ ?_) | refine wp_region_ext_lit ?_ ?_ ?_
    kernel_rfl
    kernel_rfl
    repeat (go_big_quiet_step (first | (go_at_call 33; exact Ret.quiet (cross_c _ _ _ _ _ _ h _)) | (go_at_call 34; exact Ret.quiet (min_c _ _ _)) | (go_at_call 35; exact Ret.quiet (max_c _ _ _))))
    refine wpQuiet_nil ?_
    rintro _ ⟨u, rfl⟩
    go_wp2_with fail
    go_ret
    exact Ret.mk rfl (by repeat (first | (with_reducible exact Kp.refl _) | (with_reducible assumption) | (with_reducible apply Kp.ext) | (with_reducible apply Kp.alloc) | (with_reducible apply Kp.drew) | (with_reducible apply Kp.drewN) | (with_reducible refine Kp.setCell ?_ (by first | (dsimp only; omega) | (simp; omega) | (simp; done) | (simp [size_ext_eq]; omega)) _)))
  · cases c1 : geF px (minF ax bx)
    · simp [c0, c1] at hr
      subst hr
      go_enter Tryz.func22, Tryz.ntmps22
      go_wp2_with fail
      first | (with_reducible refine wp_region_ext_lit2 ?_ ?_ ?_) | refine wp_region_ext_lit ?_ ?_ ?_
      kernel_rfl
      kernel_rfl
      repeat (go_big_quiet_step (first | (go_at_call 33; exact Ret.quiet (cross_c _ _ _ _ _ _ h _)) | (go_at_call 34; exact Ret.quiet (min_c _ _ _)) | (go_at_call 35; exact Ret.quiet (max_c _ _ _))))
      refine wpQuiet_nil ?_
      rintro _ ⟨u, rfl⟩
      go_wp2_with fail
      go_ret
      exact Ret.mk rfl (by repeat (first | (with_reducible exact Kp.refl _) | (with_reducible assumption) | (with_reducible apply Kp.ext) | (with_reducible apply Kp.alloc) | (with_reducible apply Kp.drew) | (with_reducible apply Kp.drewN) | (with_reducible refine Kp.setCell ?_ (by first | (dsimp only; omega) | (simp; omega) | (simp; done) | (simp [size_ext_eq]; omega)) _)))
    · cases c2 : leF px (maxF ax bx)
      · simp [c0, c1, c2] at hr
        subst hr
        go_enter Tryz.func22, Tryz.ntmps22
        go_wp2_with fail
        first | (with_reducible refine wp_region_ext_lit2 ?_ ?_ ?_) | refine wp_region_ext_lit ?_ ?_ ?_
        kernel_rfl
        kernel_rfl
        repeat (go_big_quiet_step (first | (go_at_call 33; exact Ret.quiet (cross_c _ _ _ _ _ _ h _)) | (go_at_call 34; exact Ret.quiet (min_c _ _ _)) | (go_at_call 35; exact Ret.quiet (max_c _ _ _))))
        refine wpQuiet_nil ?_
        rintro _ ⟨u, rfl⟩
        go_wp2_with fail
        go_ret
        exact Ret.mk rfl (by repeat (first | (with_reducible exact Kp.refl _) | (with_reducible assumption) | (with_reducible apply Kp.ext) | (with_reducible apply Kp.alloc) | (with_reducible apply Kp.drew) | (with_reducible apply Kp.drewN) | (with_reducible refine Kp.setCell ?_ (by first | (dsimp only; omega) | (simp; omega) | (simp; done) | (simp [size_ext_eq]; omega)) _)))
      · cases c3 : geF py (minF ay by')
        · simp [c0, c1, c2, c3] at hr
          subst hr
          go_enter Tryz.func22, Tryz.ntmps22
          go_wp2_with fail
          first | (with_reducible refine wp_region_ext_lit2 ?_ ?_ ?_) | refine wp_region_ext_lit ?_ ?_ ?_
          kernel_rfl
          kernel_rfl
          repeat (go_big_quiet_step (first | (go_at_call 33; exact Ret.quiet (cross_c _ _ _ _ _ _ h _)) | (go_at_call 34; exact Ret.quiet (min_c _ _ _)) | (go_at_call 35; exact Ret.quiet (max_c _ _ _))))
          refine wpQuiet_nil ?_
          rintro _ ⟨u, rfl⟩
          go_wp2_with fail
          go_ret
          exact Ret.mk rfl (by repeat (first | (with_reducible exact Kp.refl _) | (with_reducible assumption) | (with_reducible apply Kp.ext) | (with_reducible apply Kp.alloc) | (with_reducible apply Kp.drew) | (with_reducible apply Kp.drewN) | (with_reducible refine Kp.setCell ?_ (by first | (dsimp only; omega) | (simp; omega) | (simp; done) | (simp [size_ext_eq]; omega)) _)))
        · cases c4 : leF py (maxF ay by')
          · simp [c0, c1, c2, c3, c4] at hr
            subst hr
            go_enter Tryz.func22, Tryz.ntmps22
            go_wp2_with fail
            first | (with_reducible refine wp_region_ext_lit2 ?_ ?_ ?_) | refine wp_region_ext_lit ?_ ?_ ?_
            kernel_rfl
            kernel_rfl
            repeat (go_big_quiet_step (first | (go_at_call 33; exact Ret.quiet (cross_c _ _ _ _ _ _ h _)) | (go_at_call 34; exact Ret.quiet (min_c _ _ _)) | (go_at_call 35; exact Ret.quiet (max_c _ _ _))))
            refine wpQuiet_nil ?_
            rintro _ ⟨u, rfl⟩
            go_wp2_with fail
            go_ret
            exact Ret.mk rfl (by repeat (first | (with_reducible exact Kp.refl _) | (with_reducible assumption) | (with_reducible apply Kp.ext) | (with_reducible apply Kp.alloc) | (with_reducible apply Kp.drew) | (with_reducible apply Kp.drewN) | (with_reducible refine Kp.setCell ?_ (by first | (dsimp only; omega) | (simp; omega) | (simp; done) | (simp [size_ext_eq]; omega)) _)))
          · simp [c0, c1, c2, c3, c4] at hr
            subst hr
            go_enter Tryz.func22, Tryz.ntmps22
            go_wp2_with fail
            first | (with_reducible refine wp_region_ext_lit2 ?_ ?_ ?_) | refine wp_region_ext_lit ?_ ?_ ?_
            kernel_rfl
            kernel_rfl
            repeat (go_big_quiet_step (first | (go_at_call 33; exact Ret.quiet (cross_c _ _ _ _ _ _ h _)) | (go_at_call 34; exact Ret.quiet (min_c _ _ _)) | (go_at_call 35; exact Ret.quiet (max_c _ _ _))))
            refine wpQuiet_nil ?_
            rintro _ ⟨u, rfl⟩
            go_wp2_with fail
            go_ret
            exact Ret.mk rfl (by repeat (first | (with_reducible exact Kp.refl _) | (with_reducible assumption) | (with_reducible apply Kp.ext) | (with_reducible apply Kp.alloc) | (with_reducible apply Kp.drew) | (with_reducible apply Kp.drewN) | (with_reducible refine Kp.setCell ?_ (by first | (dsimp only; omega) | (simp; omega) | (simp; done) | (simp [size_ext_eq]; omega)) _)))
theorem onSeg_c {ax ay bx by' px py : Nat} {a b p : Int × Int} (ha : PtV ax ay a) (hb : PtV bx by' b) (hp : PtV px py p) {r : Bool} (hr : onSegI a b p = r) (w : World) :
    Calls Tryz.prog 22 #[.agg #[.float .f64 ax, .float .f64 ay], .agg #[.float .f64 bx, .float .f64 by'], .agg #[.float .f64 px, .float .f64 py]] w (Ret w (.bool r)) := by
  rw [← hr, ← ha.onSeg hb hp]
  exact onSegF_c ax ay bx by' px py (ha.cross hb hp).1 w

/-- two segments meet -/
def crossP (a b p : Int × Int) : Int := crossI a.1 a.2 b.1 b.2 p.1 p.2
def meetI (a b c d : Int × Int) : Bool := onSegI a b c || onSegI a b d || onSegI c d a || onSegI c d b || (decide (sgn (crossP a b c) * sgn (crossP a b d) < 0) && decide (sgn (crossP c d a) * sgn (crossP c d b) < 0))

theorem sgn_bd (n : Int) : sgn n = 1 ∨ sgn n = -1 ∨ sgn n = 0 := by unfold sgn; split <;> (try split) <;> simp
theorem sgn_wrap (m n : Int) : IntKind.i64.wrap (sgn m * sgn n) = sgn m * sgn n := by
  rcases sgn_bd m with h | h | h <;> rcases sgn_bd n with h' | h' | h' <;> rw [h, h'] <;> rfl

set_option maxRecDepth 20000 in
set_option maxHeartbeats 2000000 in
theorem meet_c {ax ay bx by' cx cy dx dy : Nat} {a b c d : Int × Int} (ha : PtV ax ay a) (hb : PtV bx by' b) (hc : PtV cx cy c) (hd : PtV dx dy d) {r : Bool} (hr : meetI a b c d = r) (w : World) :
    Calls Tryz.prog 23 #[.agg #[.float .f64 ax, .float .f64 ay], .agg #[.float .f64 bx, .float .f64 by'], .agg #[.float .f64 cx, .float .f64 cy], .agg #[.float .f64 dx, .float .f64 dy]] w (Ret w (.bool r)) := by
  unfold meetI at hr
  have x1 := ha.cross hb hc
  have x2 := ha.cross hb hd
  have x3 := hc.cross hd ha
  have x4 := hc.cross hd hb
  have w1 := sgn_wrap (crossP a b c) (crossP a b d)
  have w2 := sgn_wrap (crossP c d a) (crossP c d b)
  have s1 := fun w => sign_c _ _ x1.2 w
  have s2 := fun w => sign_c _ _ x2.2 w
  have s3 := fun w => sign_c _ _ x3.2 w
  have s4 := fun w => sign_c _ _ x4.2 w
  unfold crossP at *
  generalize sgn (crossI a.1 a.2 b.1 b.2 c.1 c.2) = n1 at *
  generalize sgn (crossI a.1 a.2 b.1 b.2 d.1 d.2) = n2 at *
  generalize sgn (crossI c.1 c.2 d.1 d.2 a.1 a.2) = n3 at *
  generalize sgn (crossI c.1 c.2 d.1 d.2 b.1 b.2) = n4 at *
  have k1 := x1.1
  have k2 := x2.1
  have k3 := x3.1
  have k4 := x4.1
  clear x1 x2 x3 x4
  have S1 := Lib.hid s1
  have S2 := Lib.hid s2
  have S3 := Lib.hid s3
  have S4 := Lib.hid s4
  clear s1 s2 s3 s4
  cases d1 : onSegI a b c
  · cases d2 : onSegI a b d
    · cases d3 : onSegI c d a
      · cases d4 : onSegI c d b
        · simp only [d1, d2, d3, d4, Bool.false_or] at hr
          by_cases g1 : n1 * n2 < 0
          · rw [decide_eq_true g1, Bool.true_and] at hr
            have g1 := eq_true g1
            by_cases g2 : n3 * n4 < 0
            · rw [decide_eq_true g2] at hr
              have g2 := eq_true g2
              subst hr
              go_enter Tryz.func23, Tryz.ntmps23
              go_wp2_with (first | (go_at_call 22; (first | (with_reducible refine (Ret.at_ext (onSeg_c ha hb hc (by assumption) _)).mono ?_) | (with_reducible refine (onSeg_c ha hb hc (by assumption) _).mono ?_)); rintro e w' ⟨rfl, u, rfl⟩) | (go_at_call 22; (first | (with_reducible refine (Ret.at_ext (onSeg_c ha hb hd (by assumption) _)).mono ?_) | (with_reducible refine (onSeg_c ha hb hd (by assumption) _).mono ?_)); rintro e w' ⟨rfl, u, rfl⟩) | (go_at_call 22; (first | (with_reducible refine (Ret.at_ext (onSeg_c hc hd ha (by assumption) _)).mono ?_) | (with_reducible refine (onSeg_c hc hd ha (by assumption) _).mono ?_)); rintro e w' ⟨rfl, u, rfl⟩) | (go_at_call 22; (first | (with_reducible refine (Ret.at_ext (onSeg_c hc hd hb (by assumption) _)).mono ?_) | (with_reducible refine (onSeg_c hc hd hb (by assumption) _).mono ?_)); rintro e w' ⟨rfl, u, rfl⟩))
              first | (with_reducible refine wp_region_ext_lit2 ?_ ?_ ?_) | refine wp_region_ext_lit ?_ ?_ ?_
              kernel_rfl
              kernel_rfl
              repeat (go_big_quiet_step (first | (go_at_call 33; with_reducible exact Ret.quiet (cross_c _ _ _ _ _ _ (by assumption) _)) | (go_at_call 32; with_reducible exact Ret.quiet (S1.out _)) | (go_at_call 32; with_reducible exact Ret.quiet (S2.out _)) | (go_at_call 32; with_reducible exact Ret.quiet (S3.out _)) | (go_at_call 32; with_reducible exact Ret.quiet (S4.out _))))
              refine wpQuiet_nil ?_
              rintro _ ⟨u, rfl⟩
              go_wp2_with fail
              go_ret
              exact Ret.mk rfl (by repeat (first | (with_reducible exact Kp.refl _) | (with_reducible assumption) | (with_reducible apply Kp.ext) | (with_reducible apply Kp.alloc) | (with_reducible apply Kp.drew) | (with_reducible apply Kp.drewN) | (with_reducible refine Kp.setCell ?_ (by first | (dsimp only; omega) | (simp; omega) | (simp; done) | (simp [size_ext_eq]; omega)) _)))
            · rw [decide_eq_false g2] at hr
              have g2 := eq_false g2
              subst hr
              go_enter Tryz.func23, Tryz.ntmps23
              go_wp2_with (first | (go_at_call 22; (first | (with_reducible refine (Ret.at_ext (onSeg_c ha hb hc (by assumption) _)).mono ?_) | (with_reducible refine (onSeg_c ha hb hc (by assumption) _).mono ?_)); rintro e w' ⟨rfl, u, rfl⟩) | (go_at_call 22; (first | (with_reducible refine (Ret.at_ext (onSeg_c ha hb hd (by assumption) _)).mono ?_) | (with_reducible refine (onSeg_c ha hb hd (by assumption) _).mono ?_)); rintro e w' ⟨rfl, u, rfl⟩) | (go_at_call 22; (first | (with_reducible refine (Ret.at_ext (onSeg_c hc hd ha (by assumption) _)).mono ?_) | (with_reducible refine (onSeg_c hc hd ha (by assumption) _).mono ?_)); rintro e w' ⟨rfl, u, rfl⟩) | (go_at_call 22; (first | (with_reducible refine (Ret.at_ext (onSeg_c hc hd hb (by assumption) _)).mono ?_) | (with_reducible refine (onSeg_c hc hd hb (by assumption) _).mono ?_)); rintro e w' ⟨rfl, u, rfl⟩))
              first | (with_reducible refine wp_region_ext_lit2 ?_ ?_ ?_) | refine wp_region_ext_lit ?_ ?_ ?_
              kernel_rfl
              kernel_rfl
              repeat (go_big_quiet_step (first | (go_at_call 33; with_reducible exact Ret.quiet (cross_c _ _ _ _ _ _ (by assumption) _)) | (go_at_call 32; with_reducible exact Ret.quiet (S1.out _)) | (go_at_call 32; with_reducible exact Ret.quiet (S2.out _)) | (go_at_call 32; with_reducible exact Ret.quiet (S3.out _)) | (go_at_call 32; with_reducible exact Ret.quiet (S4.out _))))
              refine wpQuiet_nil ?_
              rintro _ ⟨u, rfl⟩
              go_wp2_with fail
              go_ret
              exact Ret.mk rfl (by repeat (first | (with_reducible exact Kp.refl _) | (with_reducible assumption) | (with_reducible apply Kp.ext) | (with_reducible apply Kp.alloc) | (with_reducible apply Kp.drew) | (with_reducible apply Kp.drewN) | (with_reducible refine Kp.setCell ?_ (by first | (dsimp only; omega) | (simp; omega) | (simp; done) | (simp [size_ext_eq]; omega)) _)))
          · rw [decide_eq_false g1, Bool.false_and] at hr
            have g1 := eq_false g1
            subst hr
            go_enter Tryz.func23, Tryz.ntmps23
            go_wp2_with (first | (go_at_call 22; (first | (with_reducible refine (Ret.at_ext (onSeg_c ha hb hc (by assumption) _)).mono ?_) | (with_reducible refine (onSeg_c ha hb hc (by assumption) _).mono ?_)); rintro e w' ⟨rfl, u, rfl⟩) | (go_at_call 22; (first | (with_reducible refine (Ret.at_ext (onSeg_c ha hb hd (by assumption) _)).mono ?_) | (with_reducible refine (onSeg_c ha hb hd (by assumption) _).mono ?_)); rintro e w' ⟨rfl, u, rfl⟩) | (go_at_call 22; (first | (with_reducible refine (Ret.at_ext (onSeg_c hc hd ha (by assumption) _)).mono ?_) | (with_reducible refine (onSeg_c hc hd ha (by assumption) _).mono ?_)); rintro e w' ⟨rfl, u, rfl⟩) | (go_at_call 22; (first | (with_reducible refine (Ret.at_ext (onSeg_c hc hd hb (by assumption) _)).mono ?_) | (with_reducible refine (onSeg_c hc hd hb (by assumption) _).mono ?_)); rintro e w' ⟨rfl, u, rfl⟩))
            first | (with_reducible refine wp_region_ext_lit2 ?_ ?_ ?_) | refine wp_region_ext_lit ?_ ?_ ?_
            kernel_rfl
            kernel_rfl
            repeat (go_big_quiet_step (first | (go_at_call 33; with_reducible exact Ret.quiet (cross_c _ _ _ _ _ _ (by assumption) _)) | (go_at_call 32; with_reducible exact Ret.quiet (S1.out _)) | (go_at_call 32; with_reducible exact Ret.quiet (S2.out _))))
            refine wpQuiet_nil ?_
            rintro _ ⟨u, rfl⟩
            go_wp2_with fail
            go_ret
            exact Ret.mk rfl (by repeat (first | (with_reducible exact Kp.refl _) | (with_reducible assumption) | (with_reducible apply Kp.ext) | (with_reducible apply Kp.alloc) | (with_reducible apply Kp.drew) | (with_reducible apply Kp.drewN) | (with_reducible refine Kp.setCell ?_ (by first | (dsimp only; omega) | (simp; omega) | (simp; done) | (simp [size_ext_eq]; omega)) _)))
        · simp [d1, d2, d3, d4] at hr
          subst hr
          go_enter Tryz.func23, Tryz.ntmps23
          go_wp2_with (first | (go_at_call 22; (first | (with_reducible refine (Ret.at_ext (onSeg_c ha hb hc (by assumption) _)).mono ?_) | (with_reducible refine (onSeg_c ha hb hc (by assumption) _).mono ?_)); rintro e w' ⟨rfl, u, rfl⟩) | (go_at_call 22; (first | (with_reducible refine (Ret.at_ext (onSeg_c ha hb hd (by assumption) _)).mono ?_) | (with_reducible refine (onSeg_c ha hb hd (by assumption) _).mono ?_)); rintro e w' ⟨rfl, u, rfl⟩) | (go_at_call 22; (first | (with_reducible refine (Ret.at_ext (onSeg_c hc hd ha (by assumption) _)).mono ?_) | (with_reducible refine (onSeg_c hc hd ha (by assumption) _).mono ?_)); rintro e w' ⟨rfl, u, rfl⟩) | (go_at_call 22; (first | (with_reducible refine (Ret.at_ext (onSeg_c hc hd hb (by assumption) _)).mono ?_) | (with_reducible refine (onSeg_c hc hd hb (by assumption) _).mono ?_)); rintro e w' ⟨rfl, u, rfl⟩))
          go_ret
          exact Ret.mk rfl (by repeat (first | (with_reducible exact Kp.refl _) | (with_reducible assumption) | (with_reducible apply Kp.ext) | (with_reducible apply Kp.alloc) | (with_reducible apply Kp.drew) | (with_reducible apply Kp.drewN) | (with_reducible refine Kp.setCell ?_ (by first | (dsimp only; omega) | (simp; omega) | (simp; done) | (simp [size_ext_eq]; omega)) _)))
      · simp [d1, d2, d3] at hr
        subst hr
        go_enter Tryz.func23, Tryz.ntmps23
        go_wp2_with (first | (go_at_call 22; (first | (with_reducible refine (Ret.at_ext (onSeg_c ha hb hc (by assumption) _)).mono ?_) | (with_reducible refine (onSeg_c ha hb hc (by assumption) _).mono ?_)); rintro e w' ⟨rfl, u, rfl⟩) | (go_at_call 22; (first | (with_reducible refine (Ret.at_ext (onSeg_c ha hb hd (by assumption) _)).mono ?_) | (with_reducible refine (onSeg_c ha hb hd (by assumption) _).mono ?_)); rintro e w' ⟨rfl, u, rfl⟩) | (go_at_call 22; (first | (with_reducible refine (Ret.at_ext (onSeg_c hc hd ha (by assumption) _)).mono ?_) | (with_reducible refine (onSeg_c hc hd ha (by assumption) _).mono ?_)); rintro e w' ⟨rfl, u, rfl⟩) | (go_at_call 22; (first | (with_reducible refine (Ret.at_ext (onSeg_c hc hd hb (by assumption) _)).mono ?_) | (with_reducible refine (onSeg_c hc hd hb (by assumption) _).mono ?_)); rintro e w' ⟨rfl, u, rfl⟩))
        go_ret
        exact Ret.mk rfl (by repeat (first | (with_reducible exact Kp.refl _) | (with_reducible assumption) | (with_reducible apply Kp.ext) | (with_reducible apply Kp.alloc) | (with_reducible apply Kp.drew) | (with_reducible apply Kp.drewN) | (with_reducible refine Kp.setCell ?_ (by first | (dsimp only; omega) | (simp; omega) | (simp; done) | (simp [size_ext_eq]; omega)) _)))
    · simp [d1, d2] at hr
      subst hr
      go_enter Tryz.func23, Tryz.ntmps23
      go_wp2_with (first | (go_at_call 22; (first | (with_reducible refine (Ret.at_ext (onSeg_c ha hb hc (by assumption) _)).mono ?_) | (with_reducible refine (onSeg_c ha hb hc (by assumption) _).mono ?_)); rintro e w' ⟨rfl, u, rfl⟩) | (go_at_call 22; (first | (with_reducible refine (Ret.at_ext (onSeg_c ha hb hd (by assumption) _)).mono ?_) | (with_reducible refine (onSeg_c ha hb hd (by assumption) _).mono ?_)); rintro e w' ⟨rfl, u, rfl⟩) | (go_at_call 22; (first | (with_reducible refine (Ret.at_ext (onSeg_c hc hd ha (by assumption) _)).mono ?_) | (with_reducible refine (onSeg_c hc hd ha (by assumption) _).mono ?_)); rintro e w' ⟨rfl, u, rfl⟩) | (go_at_call 22; (first | (with_reducible refine (Ret.at_ext (onSeg_c hc hd hb (by assumption) _)).mono ?_) | (with_reducible refine (onSeg_c hc hd hb (by assumption) _).mono ?_)); rintro e w' ⟨rfl, u, rfl⟩))
      go_ret
      exact Ret.mk rfl (by repeat (first | (with_reducible exact Kp.refl _) | (with_reducible assumption) | (with_reducible apply Kp.ext) | (with_reducible apply Kp.alloc) | (with_reducible apply Kp.drew) | (with_reducible apply Kp.drewN) | (with_reducible refine Kp.setCell ?_ (by first | (dsimp only; omega) | (simp; omega) | (simp; done) | (simp [size_ext_eq]; omega)) _)))
  · simp [d1] at hr
    subst hr
    go_enter Tryz.func23, Tryz.ntmps23
    go_wp2_with (first | (go_at_call 22; (first | (with_reducible refine (Ret.at_ext (onSeg_c ha hb hc (by assumption) _)).mono ?_) | (with_reducible refine (onSeg_c ha hb hc (by assumption) _).mono ?_)); rintro e w' ⟨rfl, u, rfl⟩) | (go_at_call 22; (first | (with_reducible refine (Ret.at_ext (onSeg_c ha hb hd (by assumption) _)).mono ?_) | (with_reducible refine (onSeg_c ha hb hd (by assumption) _).mono ?_)); rintro e w' ⟨rfl, u, rfl⟩) | (go_at_call 22; (first | (with_reducible refine (Ret.at_ext (onSeg_c hc hd ha (by assumption) _)).mono ?_) | (with_reducible refine (onSeg_c hc hd ha (by assumption) _).mono ?_)); rintro e w' ⟨rfl, u, rfl⟩) | (go_at_call 22; (first | (with_reducible refine (Ret.at_ext (onSeg_c hc hd hb (by assumption) _)).mono ?_) | (with_reducible refine (onSeg_c hc hd hb (by assumption) _).mono ?_)); rintro e w' ⟨rfl, u, rfl⟩))
    go_ret
    exact Ret.mk rfl (by repeat (first | (with_reducible exact Kp.refl _) | (with_reducible assumption) | (with_reducible apply Kp.ext) | (with_reducible apply Kp.alloc) | (with_reducible apply Kp.drew) | (with_reducible apply Kp.drewN) | (with_reducible refine Kp.setCell ?_ (by first | (dsimp only; omega) | (simp; omega) | (simp; done) | (simp [size_ext_eq]; omega)) _)))
end Go.Proofs.YtohidpmkoehmcaaGreatDoor
