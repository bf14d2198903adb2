/-
  laws.FnSegment, walked: it answers true.
-/
import Derived.Test.YtdkadjjapmcadaaSeg
import Derived.Test.YtdkadjjapmcadaaSegAx
import Derived.Test.YtdkadjjapmcadaaPts
namespace Go.Proofs.Ytdkadjjapmcadaa
open PubFl Go.RowKit

attribute [local go_sem] cell_ext frozen_ext ext_setCell cell_store size_ext_eq lt_p0 lt_p1 lt_p2 lt_p3 lt_p4 lt_p5 lt_p6 lt_p7 lt_p8 lt_p9 lt_p10 lt_p11 lt_p12 lt_p13 lt_p14 lt_p15 lt_p16 lt_p17 lt_p18 lt_p19 lt_p20 lt_p21 lt_p22 lt_p23 lt_p24 lt_p25 lt_p26 lt_p27 lt_p28 lt_p29 lt_p30 lt_p31 lt_p32 lt_q1 lt_q2 lt_q3 lt_q4 lt_q5 lt_q6 lt_q7 lt_q8 lt_q9 lt_q10 lt_q11 lt_q12 lt_q13 lt_q14 lt_q15 lt_q16 lt_q17 lt_q18 lt_q19 lt_q20 lt_q21 lt_q22 lt_q23 lt_q24 lt_q25 lt_q26 lt_q27 lt_q28 lt_q29 lt_q30 lt_q31 lt_q32 run_fop run_store_float
attribute [local go_sem high] cmp_eql cmp_neq cmp_lss cmp_leq cmp_gtr cmp_geq

theorem works_seg : ∃ r, SegOk 0 0 4616189618054758400 0 4607182418800017408 4611686018427387904 r ∧ eqF r 4616189618054758400 = true := by
  refine ⟨_, .mid ?_ ?_ (.inl ?_) ⟨?_, ?_, ?_, ?_, ?_, ?_, ?_, ?_, ?_⟩ ?_ ?_ ⟨?_, ?_⟩ ⟨?_, ?_⟩ ⟨?_, ?_, ?_, ?_, ?_⟩, ?_⟩
  all_goals (first | (unfold FOk; decide +kernel) | decide +kernel)

theorem NewPt.set0 {w wr : World} {g x y : Nat} (h : NewPt w wr g x y) (a : Nat) : NewPt w (wr.setCell ⟨g, 0, none⟩ (.float .f64 a)) g a y := by
  refine ⟨h.lo, by simpa using h.hi, World.cell?_setCell_same _ _ _ h.c0, ?_, by simpa using h.z0, by simpa using h.z1⟩
  rw [World.cell?_setCell_other _ _ _ _ (by simp)]; exact h.c1
theorem NewPt.oth {w wr : World} {g x y k : Nat} (h : NewPt w wr g x y) (hk : k ≠ g) (i : Nat) (a : Value) : NewPt w (wr.setCell ⟨k, i, none⟩ a) g x y := by
  have n0 : ∀ j, (⟨k, i, none⟩ : Addr) ≠ ⟨g, j, none⟩ := fun j e => hk (by cases e; rfl)
  refine ⟨h.lo, by simpa using h.hi, ?_, ?_, by simpa using h.z0, by simpa using h.z1⟩
  · rw [World.cell?_setCell_other _ _ _ _ (n0 0)]; exact h.c0
  · rw [World.cell?_setCell_other _ _ _ _ (n0 1)]; exact h.c1

/-- the place on the axis that is nearest -/
def nearF (a b p : Nat) : Nat := maxF (minF a b) (minF p (maxF a b))

structure SegFacts (ax ay bx by' nx ny px py r : Nat) : Prop where
  s : SegOk ax ay bx by' px py r
  d : DsqOk nx ny px py
  o : FOk .sub r (dsqF nx ny px py)
  g : ltF (absF (fop .sub r (dsqF nx ny px py))) 4517329193108106637 = true

theorem seg_facts {ax ay l px py : Nat} (k1 : ax < 2 ^ 64) (k2 : ay < 2 ^ 64) (k3 : l < 2 ^ 64) (k4 : px < 2 ^ 64) (k5 : py < 2 ^ 64) (c1 : pointB ax ay = true) (c2 : pointB px py = true) (c3 : wholeB l = true) :
    FOk .add ax l ∧ FOk .add ay l ∧ (∃ r, SegFacts ax ay (fop .add ax l) ay (nearF ax (fop .add ax l) px) ay px py r) ∧ ∃ r, SegFacts ax ay ax (fop .add ay l) ax (nearF ay (fop .add ay l) py) px py r := by
  obtain ⟨a, b, i1, i2, _, _⟩ := pointB_int k1 k2 c1
  obtain ⟨e, f, i3, i4, _, _⟩ := pointB_int k4 k5 c2
  obtain ⟨L, i5, _, _, _⟩ := wholeB_int k3 c3
  obtain ⟨o1, v1⟩ := add_int i1 i5 (by omega)
  obtain ⟨o2, v2⟩ := add_int i2 i5 (by omega)
  refine ⟨o1, o2, ?_, ?_⟩
  · obtain ⟨r, σ, s, v, n⟩ := seg_near i1 i2 v1 i2 i3 i4 (by omega) (by omega) (by omega) (by omega) (by omega) (by omega)
    have w := seg_axis n (by omega) (by omega)
    have vn : IsV (nearF ax (fop .add ax l) px) ((clampI a (a + L) e : Int) : Rat) := maxF_int (minF_int i1 v1) (minF_int i3 (maxF_int i1 v1))
    obtain ⟨d, vd⟩ := dsq_int vn i2 i3 i4 (by unfold clampI; omega) (by omega) (by omega) (by omega)
    obtain ⟨o, g⟩ := near_less v vd w
    exact ⟨r, s, d, o, g⟩
  · obtain ⟨r, σ, s, v, n⟩ := seg_near i1 i2 i1 v2 i3 i4 (by omega) (by omega) (by omega) (by omega) (by omega) (by omega)
    have w := seg_axis n.swap (by omega) (by omega)
    have vn : IsV (nearF ay (fop .add ay l) py) ((clampI b (b + L) f : Int) : Rat) := maxF_int (minF_int i2 v2) (minF_int i4 (maxF_int i2 v2))
    obtain ⟨d, vd⟩ := dsq_int i1 vn i3 i4 (by omega) (by unfold clampI; omega) (by omega) (by omega)
    rw [Int.add_comm ((a - e) * (a - e))] at vd
    obtain ⟨o, g⟩ := near_less v vd w
    exact ⟨r, s, d, o, g⟩

theorem segment_no (ax ay l px py : Nat) (up : Bool) (k1 : ax < 2 ^ 64) (k2 : ay < 2 ^ 64) (k3 : l < 2 ^ 64) (k4 : px < 2 ^ 64) (k5 : py < 2 ^ 64) (hc : (pointB ax ay && pointB px py && wholeB l) = false) (w : World) :
    Calls Try.prog 10 #[.agg #[.float .f64 ax, .float .f64 ay], .float .f64 l, .bool up, .agg #[.float .f64 px, .float .f64 py]] w (Ret w (.bool true)) := by
  obtain ⟨r0, t0, t1⟩ := works_seg
  cases c1 : pointB ax ay
  · first | (exfalso; rw [c1, c2, c3] at hc; cases hc; done) | skip
    all_goals go_enter Try.func10, Try.ntmps10
    all_goals go_wp2_with (first | (go_at_call 31; (first | (with_reducible refine (Ret.at_ext (segment_c _ _ _ _ _ _ _ t0 _)).mono ?_) | (with_reducible refine (segment_c _ _ _ _ _ _ _ t0 _).mono ?_)); rintro e w' ⟨rfl, u, rfl⟩) | (go_at_call 20; (first | (with_reducible refine (Ret.at_ext (point_c _ _ (by assumption) (by assumption) _)).mono ?_) | (with_reducible refine (point_c _ _ (by assumption) (by assumption) _).mono ?_)); rintro e w' ⟨rfl, u, rfl⟩) | (go_at_call 33; (first | (with_reducible refine (Ret.at_ext (whole_c _ (by assumption) _)).mono ?_) | (with_reducible refine (whole_c _ (by assumption) _).mono ?_)); rintro e w' ⟨rfl, u, rfl⟩))
    all_goals (go_ret; exact Ret.mk rfl (by repeat (first | (with_reducible exact Kp.refl _) | (with_reducible assumption) | (with_reducible apply Kp.ext) | (with_reducible apply Kp.alloc) | (with_reducible apply Kp.drew) | (with_reducible apply Kp.drewN) | (with_reducible refine Kp.setCell ?_ (by first | (dsimp only; omega) | (simp; omega) | (simp; done) | (simp [size_ext_eq]; omega)) _))))
  · cases c2 : pointB px py
    · first | (exfalso; rw [c1, c2, c3] at hc; cases hc; done) | skip
      all_goals go_enter Try.func10, Try.ntmps10
      all_goals go_wp2_with (first | (go_at_call 31; (first | (with_reducible refine (Ret.at_ext (segment_c _ _ _ _ _ _ _ t0 _)).mono ?_) | (with_reducible refine (segment_c _ _ _ _ _ _ _ t0 _).mono ?_)); rintro e w' ⟨rfl, u, rfl⟩) | (go_at_call 20; (first | (with_reducible refine (Ret.at_ext (point_c _ _ (by assumption) (by assumption) _)).mono ?_) | (with_reducible refine (point_c _ _ (by assumption) (by assumption) _).mono ?_)); rintro e w' ⟨rfl, u, rfl⟩) | (go_at_call 33; (first | (with_reducible refine (Ret.at_ext (whole_c _ (by assumption) _)).mono ?_) | (with_reducible refine (whole_c _ (by assumption) _).mono ?_)); rintro e w' ⟨rfl, u, rfl⟩))
      all_goals (go_ret; exact Ret.mk rfl (by repeat (first | (with_reducible exact Kp.refl _) | (with_reducible assumption) | (with_reducible apply Kp.ext) | (with_reducible apply Kp.alloc) | (with_reducible apply Kp.drew) | (with_reducible apply Kp.drewN) | (with_reducible refine Kp.setCell ?_ (by first | (dsimp only; omega) | (simp; omega) | (simp; done) | (simp [size_ext_eq]; omega)) _))))
    · cases c3 : wholeB l
      · first | (exfalso; rw [c1, c2, c3] at hc; cases hc; done) | skip
        all_goals go_enter Try.func10, Try.ntmps10
        all_goals go_wp2_with (first | (go_at_call 31; (first | (with_reducible refine (Ret.at_ext (segment_c _ _ _ _ _ _ _ t0 _)).mono ?_) | (with_reducible refine (segment_c _ _ _ _ _ _ _ t0 _).mono ?_)); rintro e w' ⟨rfl, u, rfl⟩) | (go_at_call 20; (first | (with_reducible refine (Ret.at_ext (point_c _ _ (by assumption) (by assumption) _)).mono ?_) | (with_reducible refine (point_c _ _ (by assumption) (by assumption) _).mono ?_)); rintro e w' ⟨rfl, u, rfl⟩) | (go_at_call 33; (first | (with_reducible refine (Ret.at_ext (whole_c _ (by assumption) _)).mono ?_) | (with_reducible refine (whole_c _ (by assumption) _).mono ?_)); rintro e w' ⟨rfl, u, rfl⟩))
        all_goals (go_ret; exact Ret.mk rfl (by repeat (first | (with_reducible exact Kp.refl _) | (with_reducible assumption) | (with_reducible apply Kp.ext) | (with_reducible apply Kp.alloc) | (with_reducible apply Kp.drew) | (with_reducible apply Kp.drewN) | (with_reducible refine Kp.setCell ?_ (by first | (dsimp only; omega) | (simp; omega) | (simp; done) | (simp [size_ext_eq]; omega)) _))))
      · first | (exfalso; rw [c1, c2, c3] at hc; cases hc; done) | skip
        all_goals go_enter Try.func10, Try.ntmps10
        all_goals go_wp2_with (first | (go_at_call 31; (first | (with_reducible refine (Ret.at_ext (segment_c _ _ _ _ _ _ _ t0 _)).mono ?_) | (with_reducible refine (segment_c _ _ _ _ _ _ _ t0 _).mono ?_)); rintro e w' ⟨rfl, u, rfl⟩) | (go_at_call 20; (first | (with_reducible refine (Ret.at_ext (point_c _ _ (by assumption) (by assumption) _)).mono ?_) | (with_reducible refine (point_c _ _ (by assumption) (by assumption) _).mono ?_)); rintro e w' ⟨rfl, u, rfl⟩) | (go_at_call 33; (first | (with_reducible refine (Ret.at_ext (whole_c _ (by assumption) _)).mono ?_) | (with_reducible refine (whole_c _ (by assumption) _).mono ?_)); rintro e w' ⟨rfl, u, rfl⟩))
        all_goals (go_ret; exact Ret.mk rfl (by repeat (first | (with_reducible exact Kp.refl _) | (with_reducible assumption) | (with_reducible apply Kp.ext) | (with_reducible apply Kp.alloc) | (with_reducible apply Kp.drew) | (with_reducible apply Kp.drewN) | (with_reducible refine Kp.setCell ?_ (by first | (dsimp only; omega) | (simp; omega) | (simp; done) | (simp [size_ext_eq]; omega)) _))))

set_option maxRecDepth 100000 in
set_option maxHeartbeats 3000000 in
theorem segment_flat (ax ay l px py : Nat) (k1 : ax < 2 ^ 64) (k2 : ay < 2 ^ 64) (k3 : l < 2 ^ 64) (k4 : px < 2 ^ 64) (k5 : py < 2 ^ 64) (c1 : pointB ax ay = true) (c2 : pointB px py = true) (c3 : wholeB l = true) (w : World) :
    Calls Try.prog 10 #[.agg #[.float .f64 ax, .float .f64 ay], .float .f64 l, .bool false, .agg #[.float .f64 px, .float .f64 py]] w (Ret w (.bool true)) := by
  obtain ⟨r0, t0, t1⟩ := works_seg
  obtain ⟨o1, o2, ⟨r, hs, hd, ho, hg⟩, _⟩ := seg_facts k1 k2 k3 k4 k5 c1 c2 c3
  unfold nearF at hd ho hg
  go_enter Try.func10, Try.ntmps10
  go_upto_region 4 with (first | (go_at_call 31; (first | (with_reducible refine (Ret.at_ext (segment_c _ _ _ _ _ _ _ t0 _)).mono ?_) | (with_reducible refine (segment_c _ _ _ _ _ _ _ t0 _).mono ?_)); rintro e w' ⟨rfl, u, rfl⟩) | (go_at_call 20; (first | (with_reducible refine (Ret.at_ext (point_c _ _ (by assumption) (by assumption) _)).mono ?_) | (with_reducible refine (point_c _ _ (by assumption) (by assumption) _).mono ?_)); rintro e w' ⟨rfl, u, rfl⟩) | (go_at_call 33; (first | (with_reducible refine (Ret.at_ext (whole_c _ (by assumption) _)).mono ?_) | (with_reducible refine (whole_c _ (by assumption) _).mono ?_)); rintro e w' ⟨rfl, u, rfl⟩))
  go_cut [10, 11] (fun s10 s11 wx => ∃ B N : Nat, s10 = .pointer (some ⟨B, 0, none⟩) ∧ s11 = .pointer (some ⟨N, 0, none⟩) ∧ B ≠ N ∧ w.heap.size + 1 < B ∧ w.heap.size + 1 < N ∧ Kp w wx ∧ NewPt w wx w.heap.size ax ay ∧ NewPt w wx (w.heap.size + 1) px py ∧ NewPt w wx B (fop .add ax l) ay ∧ NewPt w wx N ax ay)
  case first =>
    go_region
    all_goals go_wp2_with fail
    all_goals go_meet
    all_goals exact ⟨_, _, rfl, rfl, by omega, by omega, by omega, (by repeat (first | (with_reducible exact Kp.refl _) | (with_reducible assumption) | (with_reducible apply Kp.ext) | (with_reducible apply Kp.alloc) | (with_reducible apply Kp.drew) | (with_reducible apply Kp.drewN) | (with_reducible refine Kp.setCell ?_ (by first | (dsimp only; omega) | (simp; omega) | (simp; done) | (simp [size_ext_eq]; omega)) _))), (by repeat (first | assumption | ((with_reducible refine NewPt.at ?_ _ _ _ ?_) <;> (first | (simp; done) | (simp; omega) | omega | (simp [size_ext_eq]; done) | (simp [size_ext_eq]; omega))) | (with_reducible apply NewPt.alloc) | (with_reducible apply NewPt.drew) | (with_reducible apply NewPt.drewN) | (with_reducible apply NewPt.ext) | (with_reducible exact NewPt.store (by assumption) _ _) | (with_reducible refine NewPt.other ?_ (by omega) _ _))), (by repeat (first | assumption | ((with_reducible refine NewPt.at ?_ _ _ _ ?_) <;> (first | (simp; done) | (simp; omega) | omega | (simp [size_ext_eq]; done) | (simp [size_ext_eq]; omega))) | (with_reducible apply NewPt.alloc) | (with_reducible apply NewPt.drew) | (with_reducible apply NewPt.drewN) | (with_reducible apply NewPt.ext) | (with_reducible exact NewPt.store (by assumption) _ _) | (with_reducible refine NewPt.other ?_ (by omega) _ _))), (by repeat (first | assumption | ((with_reducible refine NewPt.at ?_ _ _ _ ?_) <;> (first | (simp; done) | (simp; omega) | omega | (simp [size_ext_eq]; done) | (simp [size_ext_eq]; omega))) | (with_reducible apply NewPt.alloc) | (with_reducible apply NewPt.drew) | (with_reducible apply NewPt.drewN) | (with_reducible apply NewPt.ext) | (with_reducible exact NewPt.store (by assumption) _ _) | (with_reducible refine NewPt.other ?_ (by omega) _ _))), (by repeat (first | assumption | ((with_reducible refine NewPt.at ?_ _ _ _ ?_) <;> (first | (simp; done) | (simp; omega) | omega | (simp [size_ext_eq]; done) | (simp [size_ext_eq]; omega))) | (with_reducible apply NewPt.alloc) | (with_reducible apply NewPt.drew) | (with_reducible apply NewPt.drewN) | (with_reducible apply NewPt.ext) | (with_reducible exact NewPt.store (by assumption) _ _) | (with_reducible refine NewPt.other ?_ (by omega) _ _)))⟩
  case rest =>
    obtain ⟨B, N, rfl, rfl, hBN, hB, hN, hk, n1, n2, n3, n4⟩ := hcut
    obtain ⟨_, i1, a1, b1, f1, g1⟩ := id n1
    obtain ⟨_, i2, a2, b2, f2, g2⟩ := id n2
    obtain ⟨_, i3, a3, b3, f3, g3⟩ := id n3
    obtain ⟨_, i4, a4, b4, f4, g4⟩ := id n4
    go_wp2_with fail
    first | (with_reducible refine wp_region_ext_tail2 15 ?_ ?_ ?_) | refine wp_region_ext_tail 15 ?_ ?_ ?_
    kernel_rfl
    kernel_rfl
    simp only [List.take_succ_cons, List.take_zero, List.drop_succ_cons, List.drop_zero]
    repeat (go_big_quiet_step (first | (go_at_call 35; exact Ret.quiet (min_c _ _ _)) | (go_at_call 34; exact Ret.quiet (max_c _ _ _))))
    refine wpQuiet_nil ?_
    rintro _ ⟨u, rfl⟩
    go_wp2_with fail
    first | (with_reducible refine wp_region_ext_lit2 ?_ ?_ ?_) | refine wp_region_ext_lit ?_ ?_ ?_
    kernel_rfl
    kernel_rfl
    repeat (go_big_quiet_step (first | (go_at_call 31; exact Ret.quiet (segment_c _ _ _ _ _ _ _ hs _)) | (go_at_call 29; exact Ret.quiet (squared_c _ _ _ _ hd _)) | (go_at_call 36; exact Ret.quiet (abs_c _ _))))
    refine wpQuiet_nil ?_
    rintro _ ⟨u, rfl⟩
    go_wp2_with fail
    go_ret
    exact Ret.mk rfl (by repeat (first | (with_reducible exact Kp.refl _) | (with_reducible assumption) | (with_reducible apply Kp.ext) | (with_reducible apply Kp.alloc) | (with_reducible apply Kp.drew) | (with_reducible apply Kp.drewN) | (with_reducible refine Kp.setCell ?_ (by first | (dsimp only; omega) | (simp; omega) | (simp; done) | (simp [size_ext_eq]; omega)) _)))

set_option maxRecDepth 100000 in
set_option maxHeartbeats 3000000 in
theorem segment_up (ax ay l px py : Nat) (k1 : ax < 2 ^ 64) (k2 : ay < 2 ^ 64) (k3 : l < 2 ^ 64) (k4 : px < 2 ^ 64) (k5 : py < 2 ^ 64) (c1 : pointB ax ay = true) (c2 : pointB px py = true) (c3 : wholeB l = true) (w : World) :
    Calls Try.prog 10 #[.agg #[.float .f64 ax, .float .f64 ay], .float .f64 l, .bool true, .agg #[.float .f64 px, .float .f64 py]] w (Ret w (.bool true)) := by
  obtain ⟨r0, t0, t1⟩ := works_seg
  obtain ⟨o1, o2, _, ⟨r, hs, hd, ho, hg⟩⟩ := seg_facts k1 k2 k3 k4 k5 c1 c2 c3
  unfold nearF at hd ho hg
  go_enter Try.func10, Try.ntmps10
  go_upto_region 4 with (first | (go_at_call 31; (first | (with_reducible refine (Ret.at_ext (segment_c _ _ _ _ _ _ _ t0 _)).mono ?_) | (with_reducible refine (segment_c _ _ _ _ _ _ _ t0 _).mono ?_)); rintro e w' ⟨rfl, u, rfl⟩) | (go_at_call 20; (first | (with_reducible refine (Ret.at_ext (point_c _ _ (by assumption) (by assumption) _)).mono ?_) | (with_reducible refine (point_c _ _ (by assumption) (by assumption) _).mono ?_)); rintro e w' ⟨rfl, u, rfl⟩) | (go_at_call 33; (first | (with_reducible refine (Ret.at_ext (whole_c _ (by assumption) _)).mono ?_) | (with_reducible refine (whole_c _ (by assumption) _).mono ?_)); rintro e w' ⟨rfl, u, rfl⟩))
  go_cut [9, 10, 11] (fun s9 s10 s11 wx => s9 = .bool true ∧ ∃ B N : Nat, s10 = .pointer (some ⟨B, 0, none⟩) ∧ s11 = .pointer (some ⟨N, 0, none⟩) ∧ B ≠ N ∧ w.heap.size + 1 < B ∧ w.heap.size + 1 < N ∧ Kp w wx ∧ NewPt w wx w.heap.size ax ay ∧ NewPt w wx (w.heap.size + 1) px py ∧ NewPt w wx B (fop .add ax l) ay ∧ NewPt w wx N ax ay)
  case first =>
    go_region
    all_goals go_wp2_with fail
    all_goals go_meet
    all_goals exact ⟨rfl, _, _, rfl, rfl, by omega, by omega, by omega, (by repeat (first | (with_reducible exact Kp.refl _) | (with_reducible assumption) | (with_reducible apply Kp.ext) | (with_reducible apply Kp.alloc) | (with_reducible apply Kp.drew) | (with_reducible apply Kp.drewN) | (with_reducible refine Kp.setCell ?_ (by first | (dsimp only; omega) | (simp; omega) | (simp; done) | (simp [size_ext_eq]; omega)) _))), (by repeat (first | assumption | ((with_reducible refine NewPt.at ?_ _ _ _ ?_) <;> (first | (simp; done) | (simp; omega) | omega | (simp [size_ext_eq]; done) | (simp [size_ext_eq]; omega))) | (with_reducible apply NewPt.alloc) | (with_reducible apply NewPt.drew) | (with_reducible apply NewPt.drewN) | (with_reducible apply NewPt.ext) | (with_reducible exact NewPt.store (by assumption) _ _) | (with_reducible refine NewPt.other ?_ (by omega) _ _))), (by repeat (first | assumption | ((with_reducible refine NewPt.at ?_ _ _ _ ?_) <;> (first | (simp; done) | (simp; omega) | omega | (simp [size_ext_eq]; done) | (simp [size_ext_eq]; omega))) | (with_reducible apply NewPt.alloc) | (with_reducible apply NewPt.drew) | (with_reducible apply NewPt.drewN) | (with_reducible apply NewPt.ext) | (with_reducible exact NewPt.store (by assumption) _ _) | (with_reducible refine NewPt.other ?_ (by omega) _ _))), (by repeat (first | assumption | ((with_reducible refine NewPt.at ?_ _ _ _ ?_) <;> (first | (simp; done) | (simp; omega) | omega | (simp [size_ext_eq]; done) | (simp [size_ext_eq]; omega))) | (with_reducible apply NewPt.alloc) | (with_reducible apply NewPt.drew) | (with_reducible apply NewPt.drewN) | (with_reducible apply NewPt.ext) | (with_reducible exact NewPt.store (by assumption) _ _) | (with_reducible refine NewPt.other ?_ (by omega) _ _))), (by repeat (first | assumption | ((with_reducible refine NewPt.at ?_ _ _ _ ?_) <;> (first | (simp; done) | (simp; omega) | omega | (simp [size_ext_eq]; done) | (simp [size_ext_eq]; omega))) | (with_reducible apply NewPt.alloc) | (with_reducible apply NewPt.drew) | (with_reducible apply NewPt.drewN) | (with_reducible apply NewPt.ext) | (with_reducible exact NewPt.store (by assumption) _ _) | (with_reducible refine NewPt.other ?_ (by omega) _ _)))⟩
  case rest =>
    obtain ⟨rfl, B, N, rfl, rfl, hBN, hB, hN, hk, n1, n2, n3, n4⟩ := hcut
    go_upto_region 7 with fail
    obtain ⟨_, i1, a1, b1, f1, g1⟩ := id n1
    obtain ⟨_, i2, a2, b2, f2, g2⟩ := id n2
    obtain ⟨_, i3, a3, b3, f3, g3⟩ := id n3
    obtain ⟨_, i4, a4, b4, f4, g4⟩ := id n4
    first | (with_reducible refine wp_region_ext_tail2 15 ?_ ?_ ?_) | refine wp_region_ext_tail 15 ?_ ?_ ?_
    kernel_rfl
    kernel_rfl
    simp only [List.take_succ_cons, List.take_zero, List.drop_succ_cons, List.drop_zero]
    repeat (go_big_quiet_step (first | (go_at_call 35; exact Ret.quiet (min_c _ _ _)) | (go_at_call 34; exact Ret.quiet (max_c _ _ _))))
    refine wpQuiet_nil ?_
    rintro _ ⟨u, rfl⟩
    go_upto_region 7 with fail
    go_cut [9, 10, 11] (fun s9 s10 s11 wx => s9 = .bool true ∧ s10 = .pointer (some ⟨B, 0, none⟩) ∧ s11 = .pointer (some ⟨N, 0, none⟩) ∧ Kp w wx ∧ NewPt w wx w.heap.size ax ay ∧ NewPt w wx (w.heap.size + 1) px py ∧ NewPt w wx B ax (fop .add ay l) ∧ NewPt w wx N ax ay)
    case first =>
      go_region
      all_goals go_wp2_with fail
      all_goals go_meet
      all_goals
        refine ⟨rfl, rfl, rfl, (by repeat (first | (with_reducible exact Kp.refl _) | (with_reducible assumption) | (with_reducible apply Kp.ext) | (with_reducible apply Kp.alloc) | (with_reducible apply Kp.drew) | (with_reducible apply Kp.drewN) | (with_reducible refine Kp.setCell ?_ (by first | (dsimp only; omega) | (simp; omega) | (simp; done) | (simp [size_ext_eq]; omega)) _))), ?_, ?_, ?_, ?_⟩
        all_goals apply NewPt.drew
        all_goals apply NewPt.ext
        · exact ((((n1.oth (by omega) _ _).oth (by omega) _ _).oth (by omega) _ _).oth (by omega) _ _).oth (by omega) _ _
        · exact ((((n2.oth (by omega) _ _).oth (by omega) _ _).oth (by omega) _ _).oth (by omega) _ _).oth (by omega) _ _
        · exact (((n3.oth (Ne.symm hBN) _ _).store _ _).oth (Ne.symm hBN) _ _).oth (Ne.symm hBN) _ _
        · exact (((n4.set0 _).oth hBN _ _).oth hBN _ _).store _ _
    case rest =>
      obtain ⟨rfl, rfl, rfl, hk, n1, n2, n3, n4⟩ := hcut
      obtain ⟨_, i1, a1, b1, f1, g1⟩ := id n1
      obtain ⟨_, i2, a2, b2, f2, g2⟩ := id n2
      obtain ⟨_, i3, a3, b3, f3, g3⟩ := id n3
      obtain ⟨_, i4, a4, b4, f4, g4⟩ := id n4
      go_wp2_with fail
      first | (with_reducible refine wp_region_ext_tail2 15 ?_ ?_ ?_) | refine wp_region_ext_tail 15 ?_ ?_ ?_
      kernel_rfl
      kernel_rfl
      simp only [List.take_succ_cons, List.take_zero, List.drop_succ_cons, List.drop_zero]
      repeat (go_big_quiet_step (first | (go_at_call 35; exact Ret.quiet (min_c _ _ _)) | (go_at_call 34; exact Ret.quiet (max_c _ _ _))))
      refine wpQuiet_nil ?_
      rintro _ ⟨u, rfl⟩
      go_wp2_with fail
      first | (with_reducible refine wp_region_ext_lit2 ?_ ?_ ?_) | refine wp_region_ext_lit ?_ ?_ ?_
      kernel_rfl
      kernel_rfl
      repeat (go_big_quiet_step (first | (go_at_call 31; exact Ret.quiet (segment_c _ _ _ _ _ _ _ hs _)) | (go_at_call 29; exact Ret.quiet (squared_c _ _ _ _ hd _)) | (go_at_call 36; exact Ret.quiet (abs_c _ _))))
      refine wpQuiet_nil ?_
      rintro _ ⟨u, rfl⟩
      go_wp2_with fail
      go_ret
      exact Ret.mk rfl (by repeat (first | (with_reducible exact Kp.refl _) | (with_reducible assumption) | (with_reducible apply Kp.ext) | (with_reducible apply Kp.alloc) | (with_reducible apply Kp.drew) | (with_reducible apply Kp.drewN) | (with_reducible refine Kp.setCell ?_ (by first | (dsimp only; omega) | (simp; omega) | (simp; done) | (simp [size_ext_eq]; omega)) _)))

theorem segment_walk (ax ay l : Nat) (up : Bool) (px py : Nat) (k1 : ax < 2 ^ 64) (k2 : ay < 2 ^ 64) (k3 : l < 2 ^ 64) (k4 : px < 2 ^ 64) (k5 : py < 2 ^ 64) (w : World) :
    Calls Try.prog 10 #[.agg #[.float .f64 ax, .float .f64 ay], .float .f64 l, .bool up, .agg #[.float .f64 px, .float .f64 py]] w (Ret w (.bool true)) := by
  by_cases hc : (pointB ax ay && pointB px py && wholeB l) = true
  · simp only [Bool.and_eq_true] at hc
    obtain ⟨⟨c1, c2⟩, c3⟩ := hc
    cases up
    · exact segment_flat ax ay l px py k1 k2 k3 k4 k5 c1 c2 c3 w
    · exact segment_up ax ay l px py k1 k2 k3 k4 k5 c1 c2 c3 w
  · exact segment_no ax ay l px py up k1 k2 k3 k4 k5 (by simpa using hc) w
end Go.Proofs.Ytdkadjjapmcadaa
