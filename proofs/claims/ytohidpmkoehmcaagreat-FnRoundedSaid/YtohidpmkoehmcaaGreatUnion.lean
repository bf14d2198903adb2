/-
  Boxes that are extended and joined.
-/
import Derived.Test.YtohidpmkoehmcaaGreatLawMeet
import Derived.Test.YtohidpmkoehmcaaGreatWt
import Derived.Test.YtohidpmkoehmcaaGreatEq
namespace Go.Proofs.YtohidpmkoehmcaaGreat
open PubFl

attribute [local go_sem] cell_ext frozen_ext ext_setCell cell_store size_ext_eq lt_p0 lt_p1 lt_p2 lt_p3 lt_p4 lt_p5 lt_p6 lt_p7 lt_p8 lt_p9 lt_p10 lt_p11 lt_p12 lt_p13 lt_p14 lt_p15 lt_p16 lt_p17 lt_p18 lt_p19 lt_p20 lt_p21 lt_p22 lt_p23 lt_p24 lt_p25 lt_p26 lt_p27 lt_p28 lt_p29 lt_p30 lt_p31 lt_p32 lt_q1 lt_q2 lt_q3 lt_q4 lt_q5 lt_q6 lt_q7 lt_q8 lt_q9 lt_q10 lt_q11 lt_q12 lt_q13 lt_q14 lt_q15 lt_q16 lt_q17 lt_q18 lt_q19 lt_q20 lt_q21 lt_q22 lt_q23 lt_q24 lt_q25 lt_q26 lt_q27 lt_q28 lt_q29 lt_q30 lt_q31 lt_q32 run_fop run_store_float
attribute [local go_sem high] cmp_eql cmp_neq cmp_lss cmp_leq cmp_gtr cmp_geq

theorem left_c (ax ay bx by' : Nat) (w : World) : Calls Tryz.prog 103 #[.agg #[.float .f64 ax, .float .f64 ay, .float .f64 bx, .float .f64 by']] w (Ret w (.float .f64 ax)) := by
  go_enter Tryz.func103, Tryz.ntmps103
  go_wp2
  go_ret
  exact Ret.mk rfl (by repeat (first | (with_reducible exact Kp.refl _) | (with_reducible assumption) | (with_reducible apply Kp.ext) | (with_reducible apply Kp.alloc) | (with_reducible apply Kp.drew) | (with_reducible apply Kp.drewN) | (with_reducible refine Kp.setCell ?_ (by first | (dsimp only; omega) | (simp; omega) | (simp; done) | (simp [size_ext_eq]; omega)) _)))
theorem top_c (ax ay bx by' : Nat) (w : World) : Calls Tryz.prog 104 #[.agg #[.float .f64 ax, .float .f64 ay, .float .f64 bx, .float .f64 by']] w (Ret w (.float .f64 by')) := by
  go_enter Tryz.func104, Tryz.ntmps104
  go_wp2
  go_ret
  exact Ret.mk rfl (by repeat (first | (with_reducible exact Kp.refl _) | (with_reducible assumption) | (with_reducible apply Kp.ext) | (with_reducible apply Kp.alloc) | (with_reducible apply Kp.drew) | (with_reducible apply Kp.drewN) | (with_reducible refine Kp.setCell ?_ (by first | (dsimp only; omega) | (simp; omega) | (simp; done) | (simp [size_ext_eq]; omega)) _)))
theorem right_c (ax ay bx by' : Nat) (w : World) : Calls Tryz.prog 105 #[.agg #[.float .f64 ax, .float .f64 ay, .float .f64 bx, .float .f64 by']] w (Ret w (.float .f64 bx)) := by
  go_enter Tryz.func105, Tryz.ntmps105
  go_wp2
  go_ret
  exact Ret.mk rfl (by repeat (first | (with_reducible exact Kp.refl _) | (with_reducible assumption) | (with_reducible apply Kp.ext) | (with_reducible apply Kp.alloc) | (with_reducible apply Kp.drew) | (with_reducible apply Kp.drewN) | (with_reducible refine Kp.setCell ?_ (by first | (dsimp only; omega) | (simp; omega) | (simp; done) | (simp [size_ext_eq]; omega)) _)))
theorem bottom_c (ax ay bx by' : Nat) (w : World) : Calls Tryz.prog 106 #[.agg #[.float .f64 ax, .float .f64 ay, .float .f64 bx, .float .f64 by']] w (Ret w (.float .f64 ay)) := by
  go_enter Tryz.func106, Tryz.ntmps106
  go_wp2
  go_ret
  exact Ret.mk rfl (by repeat (first | (with_reducible exact Kp.refl _) | (with_reducible assumption) | (with_reducible apply Kp.ext) | (with_reducible apply Kp.alloc) | (with_reducible apply Kp.drew) | (with_reducible apply Kp.drewN) | (with_reducible refine Kp.setCell ?_ (by first | (dsimp only; omega) | (simp; omega) | (simp; done) | (simp [size_ext_eq]; omega)) _)))
theorem leftTop_c (ax ay bx by' : Nat) (w : World) : Calls Tryz.prog 101 #[.agg #[.float .f64 ax, .float .f64 ay, .float .f64 bx, .float .f64 by']] w (Ret w (.agg #[.float .f64 ax, .float .f64 by'])) := by
  go_enter Tryz.func101, Tryz.ntmps101
  go_wp2_with fail
  first | (with_reducible refine wp_region_ext_tail2 5 ?_ ?_ ?_) | refine wp_region_ext_tail 5 ?_ ?_ ?_
  kernel_rfl
  kernel_rfl
  simp only [List.take_succ_cons, List.take_zero, List.drop_succ_cons, List.drop_zero]
  repeat (go_big_quiet_step (first | (go_at_call 103; exact Ret.quiet (left_c _ _ _ _ _)) | (go_at_call 104; exact Ret.quiet (top_c _ _ _ _ _))))
  refine wpQuiet_nil ?_
  rintro _ ⟨u, rfl⟩
  go_wp2_with fail
  exact bodyPost_ret (v := .agg #[.float .f64 ax, .float .f64 by']) (by simp [results, Tryz.results101, go_sem]) rfl (Ret.mk rfl (by repeat (first | (with_reducible exact Kp.refl _) | (with_reducible assumption) | (with_reducible apply Kp.ext) | (with_reducible apply Kp.alloc) | (with_reducible apply Kp.drew) | (with_reducible apply Kp.drewN) | (with_reducible refine Kp.setCell ?_ (by first | (dsimp only; omega) | (simp; omega) | (simp; done) | (simp [size_ext_eq]; omega)) _))))
theorem rightBottom_c (ax ay bx by' : Nat) (w : World) : Calls Tryz.prog 102 #[.agg #[.float .f64 ax, .float .f64 ay, .float .f64 bx, .float .f64 by']] w (Ret w (.agg #[.float .f64 bx, .float .f64 ay])) := by
  go_enter Tryz.func102, Tryz.ntmps102
  go_wp2_with fail
  first | (with_reducible refine wp_region_ext_tail2 5 ?_ ?_ ?_) | refine wp_region_ext_tail 5 ?_ ?_ ?_
  kernel_rfl
  kernel_rfl
  simp only [List.take_succ_cons, List.take_zero, List.drop_succ_cons, List.drop_zero]
  repeat (go_big_quiet_step (first | (go_at_call 105; exact Ret.quiet (right_c _ _ _ _ _)) | (go_at_call 106; exact Ret.quiet (bottom_c _ _ _ _ _))))
  refine wpQuiet_nil ?_
  rintro _ ⟨u, rfl⟩
  go_wp2_with fail
  exact bodyPost_ret (v := .agg #[.float .f64 bx, .float .f64 ay]) (by simp [results, Tryz.results102, go_sem]) rfl (Ret.mk rfl (by repeat (first | (with_reducible exact Kp.refl _) | (with_reducible assumption) | (with_reducible apply Kp.ext) | (with_reducible apply Kp.alloc) | (with_reducible apply Kp.drew) | (with_reducible apply Kp.drewN) | (with_reducible refine Kp.setCell ?_ (by first | (dsimp only; omega) | (simp; omega) | (simp; done) | (simp [size_ext_eq]; omega)) _))))

theorem min_c (x y : Nat) (w : World) : Calls Tryz.prog 78 #[.float .f64 x, .float .f64 y] w (Ret w (.float .f64 (minF x y))) := by
  have h1 := x_min
  go_enter Tryz.func78, Tryz.ntmps78
  go_wp2
  go_ret
  exact Ret.mk rfl (by repeat (first | (with_reducible exact Kp.refl _) | (with_reducible assumption) | (with_reducible apply Kp.ext) | (with_reducible apply Kp.alloc) | (with_reducible apply Kp.drew) | (with_reducible apply Kp.drewN) | (with_reducible refine Kp.setCell ?_ (by first | (dsimp only; omega) | (simp; omega) | (simp; done) | (simp [size_ext_eq]; omega)) _)))
theorem max_c (x y : Nat) (w : World) : Calls Tryz.prog 79 #[.float .f64 x, .float .f64 y] w (Ret w (.float .f64 (maxF x y))) := by
  have h1 := x_max
  go_enter Tryz.func79, Tryz.ntmps79
  go_wp2
  go_ret
  exact Ret.mk rfl (by repeat (first | (with_reducible exact Kp.refl _) | (with_reducible assumption) | (with_reducible apply Kp.ext) | (with_reducible apply Kp.alloc) | (with_reducible apply Kp.drew) | (with_reducible apply Kp.drewN) | (with_reducible refine Kp.setCell ?_ (by first | (dsimp only; omega) | (simp; omega) | (simp; done) | (simp [size_ext_eq]; omega)) _)))

/-- a box, extended by a point -/
structure Box where
  ax : Nat
  ay : Nat
  bx : Nat
  b_y : Nat
def Box.v (b : Box) : Value := .agg #[.float .f64 b.ax, .float .f64 b.ay, .float .f64 b.bx, .float .f64 b.b_y]
def Box.extend (b : Box) (px py : Nat) : Box := if hasB b.ax b.ay b.bx b.b_y px py = true then b else ⟨minF b.ax px, minF b.ay py, maxF b.bx px, maxF b.b_y py⟩
def Box.empty (b : Box) : Bool := emptyB b.ax b.ay b.bx b.b_y

theorem extend_in (ax ay bx by' px py : Nat) (w : World) (h1 : emptyB ax ay bx by' = false) (h2 : hasB ax ay bx by' px py = true) :
    Calls Tryz.prog 75 #[.agg #[.float .f64 ax, .float .f64 ay, .float .f64 bx, .float .f64 by'], .agg #[.float .f64 px, .float .f64 py]] w (Ret w (.agg #[.float .f64 ax, .float .f64 ay, .float .f64 bx, .float .f64 by'])) := by
  go_enter Tryz.func75, Tryz.ntmps75
  go_wp2_with (first | (go_at_call 76; (first | (with_reducible refine (Ret.at_ext (isEmpty_c _ _ _ _ _)).mono ?_) | refine (isEmpty_c _ _ _ _ _).mono ?_); rintro e w' ⟨rfl, u, rfl⟩) | (go_at_call 77; (first | (with_reducible refine (Ret.at_ext (contains_c _ _ _ _ _ _ _)).mono ?_) | refine (contains_c _ _ _ _ _ _ _).mono ?_); rintro e w' ⟨rfl, u, rfl⟩))
  exact bodyPost_ret (v := .agg #[.float .f64 ax, .float .f64 ay, .float .f64 bx, .float .f64 by']) (by simp [results, Tryz.results75, go_sem]) rfl (Ret.mk rfl (by repeat (first | (with_reducible exact Kp.refl _) | (with_reducible assumption) | (with_reducible apply Kp.ext) | (with_reducible apply Kp.alloc) | (with_reducible apply Kp.drew) | (with_reducible apply Kp.drewN) | (with_reducible refine Kp.setCell ?_ (by first | (dsimp only; omega) | (simp; omega) | (simp; done) | (simp [size_ext_eq]; omega)) _))))
theorem extend_out (ax ay bx by' px py : Nat) (w : World) (h1 : emptyB ax ay bx by' = false) (h2 : hasB ax ay bx by' px py = false) :
    Calls Tryz.prog 75 #[.agg #[.float .f64 ax, .float .f64 ay, .float .f64 bx, .float .f64 by'], .agg #[.float .f64 px, .float .f64 py]] w (Ret w (.agg #[.float .f64 (minF ax px), .float .f64 (minF ay py), .float .f64 (maxF bx px), .float .f64 (maxF by' py)])) := by
  go_enter Tryz.func75, Tryz.ntmps75
  go_wp2_with (first | (go_at_call 76; (first | (with_reducible refine (Ret.at_ext (isEmpty_c _ _ _ _ _)).mono ?_) | refine (isEmpty_c _ _ _ _ _).mono ?_); rintro e w' ⟨rfl, u, rfl⟩) | (go_at_call 77; (first | (with_reducible refine (Ret.at_ext (contains_c _ _ _ _ _ _ _)).mono ?_) | refine (contains_c _ _ _ _ _ _ _).mono ?_); rintro e w' ⟨rfl, u, rfl⟩))
  first | (with_reducible refine wp_region_ext_tail2 27 ?_ ?_ ?_) | refine wp_region_ext_tail 27 ?_ ?_ ?_
  kernel_rfl
  kernel_rfl
  simp only [List.take_succ_cons, List.take_zero, List.drop_succ_cons, List.drop_zero]
  repeat (go_big_quiet_step (first | (go_at_call 78; exact Ret.quiet (min_c _ _ _)) | (go_at_call 79; exact Ret.quiet (max_c _ _ _))))
  refine wpQuiet_nil ?_
  rintro _ ⟨u, rfl⟩
  go_wp2_with fail
  exact bodyPost_ret (v := .agg #[.float .f64 (minF ax px), .float .f64 (minF ay py), .float .f64 (maxF bx px), .float .f64 (maxF by' py)]) (by simp [results, Tryz.results75, go_sem]) rfl (Ret.mk rfl (by repeat (first | (with_reducible exact Kp.refl _) | (with_reducible assumption) | (with_reducible apply Kp.ext) | (with_reducible apply Kp.alloc) | (with_reducible apply Kp.drew) | (with_reducible apply Kp.drewN) | (with_reducible refine Kp.setCell ?_ (by first | (dsimp only; omega) | (simp; omega) | (simp; done) | (simp [size_ext_eq]; omega)) _))))

theorem extend_c (ax ay bx by' px py : Nat) (w : World) (h1 : emptyB ax ay bx by' = false) :
    Calls Tryz.prog 75 #[.agg #[.float .f64 ax, .float .f64 ay, .float .f64 bx, .float .f64 by'], .agg #[.float .f64 px, .float .f64 py]] w
      (Ret w (.agg #[.float .f64 (Box.extend ⟨ax, ay, bx, by'⟩ px py).ax, .float .f64 (Box.extend ⟨ax, ay, bx, by'⟩ px py).ay, .float .f64 (Box.extend ⟨ax, ay, bx, by'⟩ px py).bx, .float .f64 (Box.extend ⟨ax, ay, bx, by'⟩ px py).b_y])) := by
  cases h2 : hasB ax ay bx by' px py
  · have : Box.extend ⟨ax, ay, bx, by'⟩ px py = ⟨minF ax px, minF ay py, maxF bx px, maxF by' py⟩ := by unfold Box.extend; simp [h2]
    rw [this]
    exact extend_out ax ay bx by' px py w h1 h2
  · have : Box.extend ⟨ax, ay, bx, by'⟩ px py = ⟨ax, ay, bx, by'⟩ := by unfold Box.extend; simp [h2]
    rw [this]
    exact extend_in ax ay bx by' px py w h1 h2

theorem union_c (ax ay bx by' cx cy dx dy : Nat) (b1 b2 b3 b4 : Box) (w : World) (e0 : emptyB ax ay bx by' = false) (e : emptyB cx cy dx dy = false)
    (h1 : Box.extend ⟨ax, ay, bx, by'⟩ cx cy = b1) (e1 : emptyB b1.ax b1.ay b1.bx b1.b_y = false) (h2 : Box.extend b1 dx dy = b2) (e2 : emptyB b2.ax b2.ay b2.bx b2.b_y = false)
    (h3 : Box.extend b2 cx dy = b3) (e3 : emptyB b3.ax b3.ay b3.bx b3.b_y = false) (h4 : Box.extend b3 dx cy = b4) :
    Calls Tryz.prog 100 #[.agg #[.float .f64 ax, .float .f64 ay, .float .f64 bx, .float .f64 by'], .agg #[.float .f64 cx, .float .f64 cy, .float .f64 dx, .float .f64 dy]] w
      (Ret w (.agg #[.float .f64 b4.ax, .float .f64 b4.ay, .float .f64 b4.bx, .float .f64 b4.b_y])) := by
  go_enter Tryz.func100, Tryz.ntmps100
  go_wp2_with (first | (go_at_call 76; (first | (with_reducible refine (Ret.at_ext (isEmpty_c _ _ _ _ _)).mono ?_) | refine (isEmpty_c _ _ _ _ _).mono ?_); rintro e w' ⟨rfl, u, rfl⟩) | (go_at_call 75; (first | (with_reducible refine (Ret.at_ext (extend_c _ _ _ _ _ _ _ (by assumption))).mono ?_) | refine (extend_c _ _ _ _ _ _ _ (by assumption)).mono ?_); rintro e w' ⟨rfl, u, rfl⟩))
  first | (with_reducible refine wp_region_ext_tail2 4 ?_ ?_ ?_) | refine wp_region_ext_tail 4 ?_ ?_ ?_
  kernel_rfl
  kernel_rfl
  simp only [List.take_succ_cons, List.take_zero, List.drop_succ_cons, List.drop_zero]
  repeat (go_big_quiet_step (first | (go_at_call 101; exact Ret.quiet (leftTop_c _ _ _ _ _)) | (go_at_call 75; exact Ret.quiet (extend_c _ _ _ _ _ _ _ (by assumption)))))
  refine wpQuiet_nil ?_
  rintro _ ⟨u, rfl⟩
  go_wp2_with fail
  first | (with_reducible refine wp_region_ext_tail2 4 ?_ ?_ ?_) | refine wp_region_ext_tail 4 ?_ ?_ ?_
  kernel_rfl
  kernel_rfl
  simp only [List.take_succ_cons, List.take_zero, List.drop_succ_cons, List.drop_zero]
  repeat (go_big_quiet_step (first | (go_at_call 102; exact Ret.quiet (rightBottom_c _ _ _ _ _)) | (go_at_call 75; exact Ret.quiet (extend_c _ _ _ _ _ _ _ (by assumption)))))
  refine wpQuiet_nil ?_
  rintro _ ⟨u, rfl⟩
  go_wp2_with fail
  exact bodyPost_ret (v := .agg #[.float .f64 b4.ax, .float .f64 b4.ay, .float .f64 b4.bx, .float .f64 b4.b_y]) (by simp [results, Tryz.results100, go_sem]) rfl (Ret.mk rfl (by repeat (first | (with_reducible exact Kp.refl _) | (with_reducible assumption) | (with_reducible apply Kp.ext) | (with_reducible apply Kp.alloc) | (with_reducible apply Kp.drew) | (with_reducible apply Kp.drewN) | (with_reducible refine Kp.setCell ?_ (by first | (dsimp only; omega) | (simp; omega) | (simp; done) | (simp [size_ext_eq]; omega)) _))))

end Go.Proofs.YtohidpmkoehmcaaGreat
