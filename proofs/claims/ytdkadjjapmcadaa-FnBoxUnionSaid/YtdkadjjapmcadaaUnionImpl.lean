/-
  impl.BoxUnion and impl.BoxWith, walked.
-/
import Derived.Test.YtdkadjjapmcadaaUnion
import Derived.Lib.Hide
import Derived.Deep.RegionHeld3
import Derived.Deep.DrawnRows
namespace Go.Proofs.Ytdkadjjapmcadaa
open PubFl

attribute [local go_sem] cell_ext frozen_ext ext_setCell cell_store size_ext_eq lt_p0 lt_p1 lt_p2 lt_p3 lt_p4 lt_p5 lt_p6 lt_p7 lt_p8 lt_p9 lt_p10 lt_p11 lt_p12 lt_p13 lt_p14 lt_p15 lt_p16 lt_p17 lt_p18 lt_p19 lt_p20 lt_p21 lt_p22 lt_p23 lt_p24 lt_p25 lt_p26 lt_p27 lt_p28 lt_p29 lt_p30 lt_p31 lt_p32 lt_q1 lt_q2 lt_q3 lt_q4 lt_q5 lt_q6 lt_q7 lt_q8 lt_q9 lt_q10 lt_q11 lt_q12 lt_q13 lt_q14 lt_q15 lt_q16 lt_q17 lt_q18 lt_q19 lt_q20 lt_q21 lt_q22 lt_q23 lt_q24 lt_q25 lt_q26 lt_q27 lt_q28 lt_q29 lt_q30 lt_q31 lt_q32 run_fop run_store_float
attribute [local go_sem high] cmp_eql cmp_neq cmp_lss cmp_leq cmp_gtr cmp_geq

attribute [local go_sem ↓] Go.wp_at_zero Go.wp_at_succ
set_option maxHeartbeats 1600000 in
theorem boxUnion_c (ax ay bx by' cx cy dx dy : Nat) (b4 : Box) (w : World)
    (hu : RowKit.Hid (∀ w, Calls Try.prog 70 #[.agg #[.float .f64 ax, .float .f64 ay, .float .f64 bx, .float .f64 by'], .agg #[.float .f64 cx, .float .f64 cy, .float .f64 dx, .float .f64 dy]] w
      (Ret w (.agg #[.float .f64 b4.ax, .float .f64 b4.ay, .float .f64 b4.bx, .float .f64 b4.b_y])))) :
    Calls Try.prog 41 #[.agg #[.float .f64 ax, .float .f64 ay], .agg #[.float .f64 bx, .float .f64 by'], .agg #[.float .f64 cx, .float .f64 cy], .agg #[.float .f64 dx, .float .f64 dy]] w
      (Ret w (.tuple #[.agg #[.float .f64 b4.ax, .float .f64 b4.ay], .agg #[.float .f64 b4.bx, .float .f64 b4.b_y]])) := by
  go_enter Try.func41, Try.ntmps41
  go_wp2_with fail
  go_region_held3 (fun w' => w'.cell? ⟨w.heap.size, 0, none⟩ = some (.float .f64 ax) ∧ w'.cell? ⟨w.heap.size, 1, none⟩ = some (.float .f64 ay) ∧ w'.cell? ⟨w.heap.size + 1, 0, none⟩ = some (.float .f64 bx) ∧ w'.cell? ⟨w.heap.size + 1, 1, none⟩ = some (.float .f64 by') ∧ w'.cell? ⟨w.heap.size + 1 + 1, 0, none⟩ = some (.float .f64 cx) ∧ w'.cell? ⟨w.heap.size + 1 + 1, 1, none⟩ = some (.float .f64 cy) ∧ w'.cell? ⟨w.heap.size + 1 + 1 + 1, 0, none⟩ = some (.float .f64 dx) ∧ w'.cell? ⟨w.heap.size + 1 + 1 + 1, 1, none⟩ = some (.float .f64 dy)) (simp [go_sem])
    (first | (go_at_call 49; (first | (with_reducible refine (Ret.at_ext (box_c _ _ _ _ _)).mono ?_) | refine (box_c _ _ _ _ _).mono ?_); rintro e w' ⟨rfl, u, rfl⟩) | (go_at_call 70; (first | (with_reducible refine (Ret.at_ext (hu.out _)).mono ?_) | refine (hu.out _).mono ?_); rintro e w' ⟨rfl, u, rfl⟩))
  all_goals
    rename_i hHeld; clear hHeld
    go_wp2_with fail
    go_region
    all_goals go_wp2_with fail
    all_goals exact bodyPost_ret (v := .tuple #[.agg #[.float .f64 b4.ax, .float .f64 b4.ay], .agg #[.float .f64 b4.bx, .float .f64 b4.b_y]]) (by simp [results, Try.results41, go_sem]) rfl (Ret.mk rfl (by repeat (first | (with_reducible exact Kp.refl _) | (with_reducible assumption) | (with_reducible apply Kp.ext) | (with_reducible apply Kp.alloc) | (with_reducible apply Kp.drew) | (with_reducible apply Kp.drewN) | (with_reducible refine Kp.setCell ?_ (by first | (dsimp only; omega) | (simp; omega) | (simp; done) | (simp [size_ext_eq]; omega)) _))))
set_option maxHeartbeats 1600000 in
theorem boxWith_c (ax ay bx by' px py : Nat) (b4 : Box) (w : World)
    (hu : RowKit.Hid (∀ w, Calls Try.prog 71 #[.agg #[.float .f64 ax, .float .f64 ay, .float .f64 bx, .float .f64 by'], .agg #[.float .f64 px, .float .f64 py]] w
      (Ret w (.agg #[.float .f64 b4.ax, .float .f64 b4.ay, .float .f64 b4.bx, .float .f64 b4.b_y])))) :
    Calls Try.prog 42 #[.agg #[.float .f64 ax, .float .f64 ay], .agg #[.float .f64 bx, .float .f64 by'], .agg #[.float .f64 px, .float .f64 py]] w
      (Ret w (.tuple #[.agg #[.float .f64 b4.ax, .float .f64 b4.ay], .agg #[.float .f64 b4.bx, .float .f64 b4.b_y]])) := by
  go_enter Try.func42, Try.ntmps42
  go_wp2_with fail
  go_region_held3 (fun w' => w'.cell? ⟨w.heap.size, 0, none⟩ = some (.float .f64 ax) ∧ w'.cell? ⟨w.heap.size, 1, none⟩ = some (.float .f64 ay) ∧ w'.cell? ⟨w.heap.size + 1, 0, none⟩ = some (.float .f64 bx) ∧ w'.cell? ⟨w.heap.size + 1, 1, none⟩ = some (.float .f64 by') ∧ w'.cell? ⟨w.heap.size + 1 + 1, 0, none⟩ = some (.float .f64 px) ∧ w'.cell? ⟨w.heap.size + 1 + 1, 1, none⟩ = some (.float .f64 py)) (simp [go_sem])
    (first | (go_at_call 49; (first | (with_reducible refine (Ret.at_ext (box_c _ _ _ _ _)).mono ?_) | refine (box_c _ _ _ _ _).mono ?_); rintro e w' ⟨rfl, u, rfl⟩) | (go_at_call 71; (first | (with_reducible refine (Ret.at_ext (hu.out _)).mono ?_) | refine (hu.out _).mono ?_); rintro e w' ⟨rfl, u, rfl⟩))
  all_goals
    rename_i hHeld; clear hHeld
    go_wp2_with fail
    go_region
    all_goals go_wp2_with fail
    all_goals exact bodyPost_ret (v := .tuple #[.agg #[.float .f64 b4.ax, .float .f64 b4.ay], .agg #[.float .f64 b4.bx, .float .f64 b4.b_y]]) (by simp [results, Try.results42, go_sem]) rfl (Ret.mk rfl (by repeat (first | (with_reducible exact Kp.refl _) | (with_reducible assumption) | (with_reducible apply Kp.ext) | (with_reducible apply Kp.alloc) | (with_reducible apply Kp.drew) | (with_reducible apply Kp.drewN) | (with_reducible refine Kp.setCell ?_ (by first | (dsimp only; omega) | (simp; omega) | (simp; done) | (simp [size_ext_eq]; omega)) _))))
end Go.Proofs.Ytdkadjjapmcadaa
