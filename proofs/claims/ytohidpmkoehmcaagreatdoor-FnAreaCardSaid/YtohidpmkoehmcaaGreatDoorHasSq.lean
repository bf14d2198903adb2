/-
  planar.RingContains on the small square, and laws.measures.
-/
import Derived.Test.YtohidpmkoehmcaaGreatDoorBound
import Derived.Test.YtohidpmkoehmcaaGreatDoorMG5
set_option linter.all false
namespace Go.Proofs.YtohidpmkoehmcaaGreatDoor
open PubFl Go.RowKit

attribute [local go_sem] cell_ext frozen_ext ext_setCell cell_store size_ext_eq lt_p0 lt_p1 lt_p2 lt_p3 lt_p4 lt_p5 lt_p6 lt_p7 lt_p8 lt_p9 lt_p10 lt_p11 lt_p12 lt_p13 lt_p14 lt_p15 lt_p16 lt_p17 lt_p18 lt_p19 lt_p20 lt_p21 lt_p22 lt_p23 lt_p24 lt_p25 lt_p26 lt_p27 lt_p28 lt_p29 lt_p30 lt_p31 lt_p32 lt_q1 lt_q2 lt_q3 lt_q4 lt_q5 lt_q6 lt_q7 lt_q8 lt_q9 lt_q10 lt_q11 lt_q12 lt_q13 lt_q14 lt_q15 lt_q16 lt_q17 lt_q18 lt_q19 lt_q20 lt_q21 lt_q22 lt_q23 lt_q24 lt_q25 lt_q26 lt_q27 lt_q28 lt_q29 lt_q30 lt_q31 lt_q32 run_fop run_store_float
attribute [local go_sem high] cmp_eql cmp_neq cmp_lss cmp_leq cmp_gtr cmp_geq

theorem l01 : ltF 0 4607182418800017408 = true := by decide +kernel
theorem l04 : ltF 0 4616189618054758400 = true := by decide +kernel
theorem l14 : ltF 4607182418800017408 4616189618054758400 = true := by decide +kernel
theorem l00 : ltF 0 0 = false := by decide +kernel
theorem l10 : ltF 4607182418800017408 0 = false := by decide +kernel
theorem l40 : ltF 4616189618054758400 0 = false := by decide +kernel
theorem l41 : ltF 4616189618054758400 4607182418800017408 = false := by decide +kernel
theorem l44 : ltF 4616189618054758400 4616189618054758400 = false := by decide +kernel
theorem g01 : gtF 0 4607182418800017408 = false := by decide +kernel
theorem g04 : gtF 0 4616189618054758400 = false := by decide +kernel
theorem g14 : gtF 4607182418800017408 4616189618054758400 = false := by decide +kernel
theorem g00 : gtF 0 0 = false := by decide +kernel
theorem g10 : gtF 4607182418800017408 0 = true := by decide +kernel
theorem g40 : gtF 4616189618054758400 0 = true := by decide +kernel
theorem g41 : gtF 4616189618054758400 4607182418800017408 = true := by decide +kernel
theorem g44 : gtF 4616189618054758400 4616189618054758400 = false := by decide +kernel
theorem e01 : eqF 0 4607182418800017408 = false := by decide +kernel
theorem e04 : eqF 0 4616189618054758400 = false := by decide +kernel
theorem e14 : eqF 4607182418800017408 4616189618054758400 = false := by decide +kernel
theorem e00 : eqF 0 0 = true := by decide +kernel
theorem e10 : eqF 4607182418800017408 0 = false := by decide +kernel
theorem e40 : eqF 4616189618054758400 0 = false := by decide +kernel
theorem e41 : eqF 4616189618054758400 4607182418800017408 = false := by decide +kernel
theorem e44 : eqF 4616189618054758400 4616189618054758400 = true := by decide +kernel
attribute [local go_sem] l01 l04 l14 l00 l10 l40 l41 l44 g01 g04 g14 g00 g10 g40 g41 g44 e01 e04 e14 e00 e10 e40 e41 e44

set_option maxRecDepth 100000 in
set_option maxHeartbeats 1000000 in
theorem ray0 (w : World) : Calls Tryz.prog 38 #[.agg #[.float .f64 4607182418800017408, .float .f64 4607182418800017408], .agg #[.float .f64 0, .float .f64 0], .agg #[.float .f64 0, .float .f64 0]] w (Ret w (.tuple #[.bool false, .bool false])) := by
  go_enter Tryz.func38, Tryz.ntmps38
  go_wp2_with fail
  go_ret2
  exact Ret.mk rfl (by repeat (first | (with_reducible exact Kp.refl _) | (with_reducible assumption) | (with_reducible apply Kp.ext) | (with_reducible apply Kp.alloc) | (with_reducible apply Kp.drew) | (with_reducible apply Kp.drewN) | (with_reducible refine Kp.setCell ?_ (by first | (dsimp only; omega) | (simp; omega) | (simp; done) | (simp [size_ext_eq]; omega)) _)))
set_option maxRecDepth 100000 in
set_option maxHeartbeats 1000000 in
theorem ray1 (w : World) : Calls Tryz.prog 38 #[.agg #[.float .f64 4607182418800017408, .float .f64 4607182418800017408], .agg #[.float .f64 0, .float .f64 0], .agg #[.float .f64 4616189618054758400, .float .f64 0]] w (Ret w (.tuple #[.bool false, .bool false])) := by
  go_enter Tryz.func38, Tryz.ntmps38
  go_wp2_with fail
  go_ret2
  exact Ret.mk rfl (by repeat (first | (with_reducible exact Kp.refl _) | (with_reducible assumption) | (with_reducible apply Kp.ext) | (with_reducible apply Kp.alloc) | (with_reducible apply Kp.drew) | (with_reducible apply Kp.drewN) | (with_reducible refine Kp.setCell ?_ (by first | (dsimp only; omega) | (simp; omega) | (simp; done) | (simp [size_ext_eq]; omega)) _)))
set_option maxRecDepth 100000 in
set_option maxHeartbeats 1000000 in
theorem ray2 (w : World) : Calls Tryz.prog 38 #[.agg #[.float .f64 4607182418800017408, .float .f64 4607182418800017408], .agg #[.float .f64 4616189618054758400, .float .f64 0], .agg #[.float .f64 4616189618054758400, .float .f64 4616189618054758400]] w (Ret w (.tuple #[.bool false, .bool false])) := by
  go_enter Tryz.func38, Tryz.ntmps38
  go_wp2_with fail
  go_ret2
  exact Ret.mk rfl (by repeat (first | (with_reducible exact Kp.refl _) | (with_reducible assumption) | (with_reducible apply Kp.ext) | (with_reducible apply Kp.alloc) | (with_reducible apply Kp.drew) | (with_reducible apply Kp.drewN) | (with_reducible refine Kp.setCell ?_ (by first | (dsimp only; omega) | (simp; omega) | (simp; done) | (simp [size_ext_eq]; omega)) _)))
set_option maxRecDepth 100000 in
set_option maxHeartbeats 1000000 in
theorem ray3 (w : World) : Calls Tryz.prog 38 #[.agg #[.float .f64 4607182418800017408, .float .f64 4607182418800017408], .agg #[.float .f64 4616189618054758400, .float .f64 4616189618054758400], .agg #[.float .f64 0, .float .f64 4616189618054758400]] w (Ret w (.tuple #[.bool true, .bool false])) := by
  go_enter Tryz.func38, Tryz.ntmps38
  go_wp2_with fail
  go_ret2
  exact Ret.mk rfl (by repeat (first | (with_reducible exact Kp.refl _) | (with_reducible assumption) | (with_reducible apply Kp.ext) | (with_reducible apply Kp.alloc) | (with_reducible apply Kp.drew) | (with_reducible apply Kp.drewN) | (with_reducible refine Kp.setCell ?_ (by first | (dsimp only; omega) | (simp; omega) | (simp; done) | (simp [size_ext_eq]; omega)) _)))
set_option maxRecDepth 100000 in
set_option maxHeartbeats 1000000 in
theorem ray4 (w : World) : Calls Tryz.prog 38 #[.agg #[.float .f64 4607182418800017408, .float .f64 4607182418800017408], .agg #[.float .f64 0, .float .f64 4616189618054758400], .agg #[.float .f64 0, .float .f64 0]] w (Ret w (.tuple #[.bool false, .bool false])) := by
  go_enter Tryz.func38, Tryz.ntmps38
  go_wp2_with fail
  go_ret2
  exact Ret.mk rfl (by repeat (first | (with_reducible exact Kp.refl _) | (with_reducible assumption) | (with_reducible apply Kp.ext) | (with_reducible apply Kp.alloc) | (with_reducible apply Kp.drew) | (with_reducible apply Kp.drewN) | (with_reducible refine Kp.setCell ?_ (by first | (dsimp only; omega) | (simp; omega) | (simp; done) | (simp [size_ext_eq]; omega)) _)))


theorem fl_four' : fl 4 = 4616189618054758400 := by kernel_rfl
theorem sq5_pts : ∃ x y : Nat → Int, IntPts sq5 x y ∧ sumTo (offT x y) 3 = 32 := by
  have z : IsV 0 ((0 : Int) : Rat) := zero_isV
  have f : IsV 4616189618054758400 ((4 : Int) : Rat) := by rw [← fl_four']; exact fl_isV (by decide)
  refine ⟨fun i => ([0, 4, 4, 0, 0] : List Int).getD i 0, fun i => ([0, 0, 4, 4, 0] : List Int).getD i 0, ?_, by decide⟩
  intro i hi
  have hi5 : i < 5 := hi
  rcases (show i = 0 ∨ i = 1 ∨ i = 2 ∨ i = 3 ∨ i = 4 by omega) with rfl | rfl | rfl | rfl | rfl
  · exact ⟨z, z, by decide, by decide⟩
  · exact ⟨f, z, by decide, by decide⟩
  · exact ⟨f, f, by decide, by decide⟩
  · exact ⟨z, f, by decide, by decide⟩
  · exact ⟨z, z, by decide, by decide⟩
theorem sq5_box : boundTo 0 0 sq5 5 = ⟨0, 0, 4616189618054758400, 4616189618054758400⟩ := by kernel_rfl
theorem sq5_has : hasB 0 0 4616189618054758400 4616189618054758400 4607182418800017408 4607182418800017408 = true := by decide +kernel

theorem bound_sq (g cap : Nat) (w : World) (hg : g < w.heap.size) (hpt : PtsAt w g 0 sq5) : Calls Tryz.prog 36 #[.slice (some ⟨g, 0, none⟩) 5 cap] w (Ret w (.agg #[.float .f64 0, .float .f64 0, .float .f64 4616189618054758400, .float .f64 4616189618054758400])) := by
  obtain ⟨x, y, hi, _⟩ := sq5_pts
  exact ringBound_c g 0 cap sq5 (by decide) (by decide) w hg hpt x y hi 0 0 rfl _ sq5_box

set_option maxRecDepth 20000 in
set_option maxHeartbeats 2000000 in
theorem contains_sq (g cap : Nat) (w : World) (hg : g < w.heap.size) (hpt : PtsAt w g 0 sq5) :
    Calls Tryz.prog 27 #[.slice (some ⟨g, 0, none⟩) 5 cap, .agg #[.float .f64 4607182418800017408, .float .f64 4607182418800017408]] w (Ret w (.bool true)) := by
  have hbd := Lib.hid (fun w' (hk : Kp w w') => bound_sq g cap w' (Nat.lt_of_lt_of_le hg hk.size) (hpt.kp hg hk))
  have Hpt := Lib.hid hpt
  have hhas := sq5_has
  have c0 : w.cell? ⟨g, 0, none⟩ = some (.float .f64 0) := by simpa [sq5] using (hpt 0 (by decide)).1
  have c1 : w.cell? ⟨g, 1, none⟩ = some (.float .f64 0) := by simpa [sq5] using (hpt 0 (by decide)).2
  have c8 : w.cell? ⟨g, 8, none⟩ = some (.float .f64 0) := by simpa [sq5] using (hpt 4 (by decide)).1
  have c9 : w.cell? ⟨g, 9, none⟩ = some (.float .f64 0) := by simpa [sq5] using (hpt 4 (by decide)).2
  clear hpt
  go_enter Tryz.func27, Tryz.ntmps27
  go_wp2_with fail
  first | (with_reducible refine wp_region_ext_lit2 ?_ ?_ ?_) | refine wp_region_ext_lit ?_ ?_ ?_
  kernel_rfl
  kernel_rfl
  repeat (go_big_quiet_step (first | (go_at_call 36; with_reducible exact Ret.quiet (hbd.out _ (by repeat (first | (with_reducible exact Kp.refl _) | (with_reducible assumption) | (with_reducible apply Kp.ext) | (with_reducible apply Kp.alloc) | (with_reducible apply Kp.drew) | (with_reducible apply Kp.drewN) | (with_reducible refine Kp.setCell ?_ (by first | (dsimp only; omega) | (simp; omega) | (simp; done) | (simp [size_ext_eq]; omega)) _))))) | (go_at_call 37; with_reducible exact Ret.quiet (contains_c _ _ _ _ _ _ _))))
  refine wpQuiet_nil ?_
  rintro _ ⟨u, rfl⟩
  go_wp2_with fail
  first | (with_reducible refine wp_region_ext_lit2 ?_ ?_ ?_) | refine wp_region_ext_lit ?_ ?_ ?_
  kernel_rfl
  kernel_rfl
  repeat (go_big_quiet_step (first | (go_at_call 38; with_reducible exact Ret.quiet (ray0 _))))
  refine wpQuiet_nil ?_
  rintro _ ⟨u, rfl⟩
  go_wp2_with fail
  clear c0 c1 c8 c9
  go_loopw [5, 7] (fun s5 s7 wr => ∃ k : Nat, k ≤ 4 ∧ s5 = .bool (decide (3 ≤ k)) ∧ s7 = .int .i64 k ∧ Kp w wr ∧ NewPt w wr w.heap.size 4607182418800017408 4607182418800017408) (fun _ s7 _ => 5 - (intOf s7).toNat)
  case atStart => exact ⟨0, by omega, rfl, rfl, (by repeat (first | (with_reducible exact Kp.refl _) | (with_reducible assumption) | (with_reducible apply Kp.ext) | (with_reducible apply Kp.alloc) | (with_reducible apply Kp.drew) | (with_reducible apply Kp.drewN) | (with_reducible refine Kp.setCell ?_ (by first | (dsimp only; omega) | (simp; omega) | (simp; done) | (simp [size_ext_eq]; omega)) _))), (by repeat (first | assumption | ((with_reducible refine NewPt.at ?_ _ _ _ ?_) <;> (first | (simp; done) | (simp; omega) | omega | (simp [size_ext_eq]; done) | (simp [size_ext_eq]; omega))) | (with_reducible apply NewPt.alloc) | (with_reducible apply NewPt.drew) | (with_reducible apply NewPt.drewN) | (with_reducible apply NewPt.ext) | (with_reducible exact NewPt.store (by assumption) _ _) | (with_reducible refine NewPt.other ?_ (by omega) _ _)))⟩
  case round =>
    obtain ⟨k, hk4, rfl, rfl, hkp, m⟩ := hrel
    obtain ⟨_, i1, p0, p1, z0, z1⟩ := id m
    have hbk : g < wr.heap.size := Nat.lt_of_lt_of_le hg hkp.size
    have q := Hpt.out.kp hg hkp
    have c0 : wr.cell? ⟨g, 0, none⟩ = some (.float .f64 0) := by simpa [sq5] using (q 0 (by decide)).1
    have c1 : wr.cell? ⟨g, 1, none⟩ = some (.float .f64 0) := by simpa [sq5] using (q 0 (by decide)).2
    have c2 : wr.cell? ⟨g, 2, none⟩ = some (.float .f64 4616189618054758400) := by simpa [sq5] using (q 1 (by decide)).1
    have c3 : wr.cell? ⟨g, 3, none⟩ = some (.float .f64 0) := by simpa [sq5] using (q 1 (by decide)).2
    have c4 : wr.cell? ⟨g, 4, none⟩ = some (.float .f64 4616189618054758400) := by simpa [sq5] using (q 2 (by decide)).1
    have c5 : wr.cell? ⟨g, 5, none⟩ = some (.float .f64 4616189618054758400) := by simpa [sq5] using (q 2 (by decide)).2
    have c6 : wr.cell? ⟨g, 6, none⟩ = some (.float .f64 0) := by simpa [sq5] using (q 3 (by decide)).1
    have c7 : wr.cell? ⟨g, 7, none⟩ = some (.float .f64 4616189618054758400) := by simpa [sq5] using (q 3 (by decide)).2
    have c8 : wr.cell? ⟨g, 8, none⟩ = some (.float .f64 0) := by simpa [sq5] using (q 4 (by decide)).1
    have c9 : wr.cell? ⟨g, 9, none⟩ = some (.float .f64 0) := by simpa [sq5] using (q 4 (by decide)).2
    clear q
    rcases (show k = 0 ∨ k = 1 ∨ k = 2 ∨ k = 3 ∨ k = 4 by omega) with rfl | rfl | rfl | rfl | rfl
    · go_wp2_with fail
      first | (with_reducible refine wp_region_ext_lit2 ?_ ?_ ?_) | refine wp_region_ext_lit ?_ ?_ ?_
      kernel_rfl
      kernel_rfl
      repeat (go_big_quiet_step (first | (go_at_call 38; with_reducible exact Ret.quiet (ray1 _))))
      refine wpQuiet_nil ?_
      rintro _ ⟨u, rfl⟩
      go_wp2_with fail
      go_roundw
      case rel => exact ⟨1, by omega, rfl, rfl, (by repeat (first | (with_reducible exact Kp.refl _) | (with_reducible assumption) | (with_reducible apply Kp.ext) | (with_reducible apply Kp.alloc) | (with_reducible apply Kp.drew) | (with_reducible apply Kp.drewN) | (with_reducible refine Kp.setCell ?_ (by first | (dsimp only; omega) | (simp; omega) | (simp; done) | (simp [size_ext_eq]; omega)) _))), m.ext _⟩
      case measure => simp [intOf]
    · go_wp2_with fail
      first | (with_reducible refine wp_region_ext_lit2 ?_ ?_ ?_) | refine wp_region_ext_lit ?_ ?_ ?_
      kernel_rfl
      kernel_rfl
      repeat (go_big_quiet_step (first | (go_at_call 38; with_reducible exact Ret.quiet (ray2 _))))
      refine wpQuiet_nil ?_
      rintro _ ⟨u, rfl⟩
      go_wp2_with fail
      go_roundw
      case rel => exact ⟨2, by omega, rfl, rfl, (by repeat (first | (with_reducible exact Kp.refl _) | (with_reducible assumption) | (with_reducible apply Kp.ext) | (with_reducible apply Kp.alloc) | (with_reducible apply Kp.drew) | (with_reducible apply Kp.drewN) | (with_reducible refine Kp.setCell ?_ (by first | (dsimp only; omega) | (simp; omega) | (simp; done) | (simp [size_ext_eq]; omega)) _))), m.ext _⟩
      case measure => simp [intOf]
    · go_wp2_with fail
      first | (with_reducible refine wp_region_ext_lit2 ?_ ?_ ?_) | refine wp_region_ext_lit ?_ ?_ ?_
      kernel_rfl
      kernel_rfl
      repeat (go_big_quiet_step (first | (go_at_call 38; with_reducible exact Ret.quiet (ray3 _))))
      refine wpQuiet_nil ?_
      rintro _ ⟨u, rfl⟩
      go_wp2_with fail
      go_roundw
      case rel => exact ⟨3, by omega, rfl, rfl, (by repeat (first | (with_reducible exact Kp.refl _) | (with_reducible assumption) | (with_reducible apply Kp.ext) | (with_reducible apply Kp.alloc) | (with_reducible apply Kp.drew) | (with_reducible apply Kp.drewN) | (with_reducible refine Kp.setCell ?_ (by first | (dsimp only; omega) | (simp; omega) | (simp; done) | (simp [size_ext_eq]; omega)) _))), m.ext _⟩
      case measure => simp [intOf]
    · go_wp2_with fail
      first | (with_reducible refine wp_region_ext_lit2 ?_ ?_ ?_) | refine wp_region_ext_lit ?_ ?_ ?_
      kernel_rfl
      kernel_rfl
      repeat (go_big_quiet_step (first | (go_at_call 38; with_reducible exact Ret.quiet (ray4 _))))
      refine wpQuiet_nil ?_
      rintro _ ⟨u, rfl⟩
      go_wp2_with fail
      go_roundw
      case rel => exact ⟨4, by omega, rfl, rfl, (by repeat (first | (with_reducible exact Kp.refl _) | (with_reducible assumption) | (with_reducible apply Kp.ext) | (with_reducible apply Kp.alloc) | (with_reducible apply Kp.drew) | (with_reducible apply Kp.drewN) | (with_reducible refine Kp.setCell ?_ (by first | (dsimp only; omega) | (simp; omega) | (simp; done) | (simp [size_ext_eq]; omega)) _))), m.ext _⟩
      case measure => simp [intOf]
    · go_wp2_with fail
      go_ret
      exact Ret.mk rfl (by repeat (first | (with_reducible exact Kp.refl _) | (with_reducible assumption) | (with_reducible apply Kp.ext) | (with_reducible apply Kp.alloc) | (with_reducible apply Kp.drew) | (with_reducible apply Kp.drewN) | (with_reducible refine Kp.setCell ?_ (by first | (dsimp only; omega) | (simp; omega) | (simp; done) | (simp [size_ext_eq]; omega)) _)))
end Go.Proofs.YtohidpmkoehmcaaGreatDoor
