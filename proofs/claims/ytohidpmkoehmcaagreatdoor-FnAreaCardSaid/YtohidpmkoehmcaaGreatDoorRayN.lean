/-
  planar.rayIntersect, walked (the ends in order): on whole numbers it tells whether a ray upwards goes through a side, and whether the point is on it.
-/
import Derived.Test.YtohidpmkoehmcaaGreatDoorMG7
set_option linter.all false
namespace Go.Proofs.YtohidpmkoehmcaaGreatDoor
open PubFl Go.RowKit

attribute [local go_sem] cell_ext frozen_ext ext_setCell cell_store size_ext_eq lt_p0 lt_p1 lt_p2 lt_p3 lt_p4 lt_p5 lt_p6 lt_p7 lt_p8 lt_p9 lt_p10 lt_p11 lt_p12 lt_p13 lt_p14 lt_p15 lt_p16 lt_p17 lt_p18 lt_p19 lt_p20 lt_p21 lt_p22 lt_p23 lt_p24 lt_p25 lt_p26 lt_p27 lt_p28 lt_p29 lt_p30 lt_p31 lt_p32 lt_q1 lt_q2 lt_q3 lt_q4 lt_q5 lt_q6 lt_q7 lt_q8 lt_q9 lt_q10 lt_q11 lt_q12 lt_q13 lt_q14 lt_q15 lt_q16 lt_q17 lt_q18 lt_q19 lt_q20 lt_q21 lt_q22 lt_q23 lt_q24 lt_q25 lt_q26 lt_q27 lt_q28 lt_q29 lt_q30 lt_q31 lt_q32 run_fop run_store_float
attribute [local go_sem high] cmp_eql cmp_neq cmp_lss cmp_leq cmp_gtr cmp_geq

set_option maxRecDepth 100000 in
set_option maxHeartbeats 1000000 in
theorem rayN_l1 {px py sx sy ex ey : Nat} {p s e : Int × Int} (hp : PtW px py p) (hs : PtW sx sy s) (he : PtW ex ey e) (h0 : s.1 ≤ e.1) (h1 : p.1 < s.1) (w : World) :
    Calls Tryz.prog 38 #[.agg #[.float .f64 px, .float .f64 py], .agg #[.float .f64 sx, .float .f64 sy], .agg #[.float .f64 ex, .float .f64 ey]] w (Ret w (.tuple #[.bool (upB s e p), .bool (onSegI s e p)])) := by
  obtain ⟨hpb, hpb2⟩ : (-1000 ≤ p.1 ∧ p.1 ≤ 1000) ∧ (-1000 ≤ p.2 ∧ p.2 ≤ 1000) := ⟨hp.bx, hp.b_y⟩
  obtain ⟨hsb, hsb2⟩ : (-1000 ≤ s.1 ∧ s.1 ≤ 1000) ∧ (-1000 ≤ s.2 ∧ s.2 ≤ 1000) := ⟨hs.bx, hs.b_y⟩
  obtain ⟨heb, heb2⟩ : (-1000 ≤ e.1 ∧ e.1 ≤ 1000) ∧ (-1000 ≤ e.2 ∧ e.2 ≤ 1000) := ⟨he.bx, he.b_y⟩
  have hse : s.1 ≤ e.1 := by omega
  have hg := gtF_int hs.x he.x
  have hv := v_out hse (.inl h1)
  rw [hv.1, hv.2]
  clear hv
  have f1 := eqF_int hp.x hs.x
  have f2 := eqF_int hp.y hs.y
  have f3 := eqF_int hs.x he.x
  have f4 := gtF_int hs.y he.y
  have f5 := geF_int hs.y hp.y
  have f6 := geF_int hp.y he.y
  have f7 := gtF_int he.y hs.y
  have f8 := geF_int he.y hp.y
  have f9 := geF_int hp.y hs.y
  have g1 := eqF_int hp.x he.x
  have g2 := eqF_int hp.y he.y
  have g3 := ltF_int hp.x hs.x
  have g4 := gtF_int hp.x he.x
  have g5 := gtF_int hp.y hs.y
  have g6 := ltF_int hp.y he.y
  have g7 := gtF_int hp.y he.y
  have g8 := ltF_int hp.y hs.y
  first | rw [decide_eq_true (by omega)] at f1 | rw [decide_eq_false (by omega)] at f1 | clear f1
  first | rw [decide_eq_true (by omega)] at f2 | rw [decide_eq_false (by omega)] at f2 | clear f2
  first | rw [decide_eq_true (by omega)] at f3 | rw [decide_eq_false (by omega)] at f3 | clear f3
  first | rw [decide_eq_true (by omega)] at f4 | rw [decide_eq_false (by omega)] at f4 | clear f4
  first | rw [decide_eq_true (by omega)] at f5 | rw [decide_eq_false (by omega)] at f5 | clear f5
  first | rw [decide_eq_true (by omega)] at f6 | rw [decide_eq_false (by omega)] at f6 | clear f6
  first | rw [decide_eq_true (by omega)] at f7 | rw [decide_eq_false (by omega)] at f7 | clear f7
  first | rw [decide_eq_true (by omega)] at f8 | rw [decide_eq_false (by omega)] at f8 | clear f8
  first | rw [decide_eq_true (by omega)] at f9 | rw [decide_eq_false (by omega)] at f9 | clear f9
  first | rw [decide_eq_true (by omega)] at g1 | rw [decide_eq_false (by omega)] at g1 | clear g1
  first | rw [decide_eq_true (by omega)] at g2 | rw [decide_eq_false (by omega)] at g2 | clear g2
  first | rw [decide_eq_true (by omega)] at g3 | rw [decide_eq_false (by omega)] at g3 | clear g3
  first | rw [decide_eq_true (by omega)] at g4 | rw [decide_eq_false (by omega)] at g4 | clear g4
  first | rw [decide_eq_true (by omega)] at g5 | rw [decide_eq_false (by omega)] at g5 | clear g5
  first | rw [decide_eq_true (by omega)] at g6 | rw [decide_eq_false (by omega)] at g6 | clear g6
  first | rw [decide_eq_true (by omega)] at g7 | rw [decide_eq_false (by omega)] at g7 | clear g7
  first | rw [decide_eq_true (by omega)] at g8 | rw [decide_eq_false (by omega)] at g8 | clear g8
  first | rw [decide_eq_true (by omega)] at hg | rw [decide_eq_false (by omega)] at hg
  clear hs he hp hsb heb hpb hsb2 heb2 hpb2 hse
  skip
  go_enter Tryz.func38, Tryz.ntmps38
  go_wp2_with fail
  go_ret2
  exact Ret.mk rfl (by repeat (first | (with_reducible exact Kp.refl _) | (with_reducible assumption) | (with_reducible apply Kp.ext) | (with_reducible apply Kp.alloc) | (with_reducible apply Kp.drew) | (with_reducible apply Kp.drewN) | (with_reducible refine Kp.setCell ?_ (by first | (dsimp only; omega) | (simp; omega) | (simp; done) | (simp [size_ext_eq]; omega)) _)))
set_option maxRecDepth 100000 in
set_option maxHeartbeats 1000000 in
theorem rayN_l2 {px py sx sy ex ey : Nat} {p s e : Int × Int} (hp : PtW px py p) (hs : PtW sx sy s) (he : PtW ex ey e) (h0 : s.1 ≤ e.1) (h1 : e.1 < p.1) (w : World) :
    Calls Tryz.prog 38 #[.agg #[.float .f64 px, .float .f64 py], .agg #[.float .f64 sx, .float .f64 sy], .agg #[.float .f64 ex, .float .f64 ey]] w (Ret w (.tuple #[.bool (upB s e p), .bool (onSegI s e p)])) := by
  obtain ⟨hpb, hpb2⟩ : (-1000 ≤ p.1 ∧ p.1 ≤ 1000) ∧ (-1000 ≤ p.2 ∧ p.2 ≤ 1000) := ⟨hp.bx, hp.b_y⟩
  obtain ⟨hsb, hsb2⟩ : (-1000 ≤ s.1 ∧ s.1 ≤ 1000) ∧ (-1000 ≤ s.2 ∧ s.2 ≤ 1000) := ⟨hs.bx, hs.b_y⟩
  obtain ⟨heb, heb2⟩ : (-1000 ≤ e.1 ∧ e.1 ≤ 1000) ∧ (-1000 ≤ e.2 ∧ e.2 ≤ 1000) := ⟨he.bx, he.b_y⟩
  have hse : s.1 ≤ e.1 := by omega
  have hg := gtF_int hs.x he.x
  have hv := v_out hse (.inr h1)
  rw [hv.1, hv.2]
  clear hv
  have f1 := eqF_int hp.x hs.x
  have f2 := eqF_int hp.y hs.y
  have f3 := eqF_int hs.x he.x
  have f4 := gtF_int hs.y he.y
  have f5 := geF_int hs.y hp.y
  have f6 := geF_int hp.y he.y
  have f7 := gtF_int he.y hs.y
  have f8 := geF_int he.y hp.y
  have f9 := geF_int hp.y hs.y
  have g1 := eqF_int hp.x he.x
  have g2 := eqF_int hp.y he.y
  have g3 := ltF_int hp.x hs.x
  have g4 := gtF_int hp.x he.x
  have g5 := gtF_int hp.y hs.y
  have g6 := ltF_int hp.y he.y
  have g7 := gtF_int hp.y he.y
  have g8 := ltF_int hp.y hs.y
  first | rw [decide_eq_true (by omega)] at f1 | rw [decide_eq_false (by omega)] at f1 | clear f1
  first | rw [decide_eq_true (by omega)] at f2 | rw [decide_eq_false (by omega)] at f2 | clear f2
  first | rw [decide_eq_true (by omega)] at f3 | rw [decide_eq_false (by omega)] at f3 | clear f3
  first | rw [decide_eq_true (by omega)] at f4 | rw [decide_eq_false (by omega)] at f4 | clear f4
  first | rw [decide_eq_true (by omega)] at f5 | rw [decide_eq_false (by omega)] at f5 | clear f5
  first | rw [decide_eq_true (by omega)] at f6 | rw [decide_eq_false (by omega)] at f6 | clear f6
  first | rw [decide_eq_true (by omega)] at f7 | rw [decide_eq_false (by omega)] at f7 | clear f7
  first | rw [decide_eq_true (by omega)] at f8 | rw [decide_eq_false (by omega)] at f8 | clear f8
  first | rw [decide_eq_true (by omega)] at f9 | rw [decide_eq_false (by omega)] at f9 | clear f9
  first | rw [decide_eq_true (by omega)] at g1 | rw [decide_eq_false (by omega)] at g1 | clear g1
  first | rw [decide_eq_true (by omega)] at g2 | rw [decide_eq_false (by omega)] at g2 | clear g2
  first | rw [decide_eq_true (by omega)] at g3 | rw [decide_eq_false (by omega)] at g3 | clear g3
  first | rw [decide_eq_true (by omega)] at g4 | rw [decide_eq_false (by omega)] at g4 | clear g4
  first | rw [decide_eq_true (by omega)] at g5 | rw [decide_eq_false (by omega)] at g5 | clear g5
  first | rw [decide_eq_true (by omega)] at g6 | rw [decide_eq_false (by omega)] at g6 | clear g6
  first | rw [decide_eq_true (by omega)] at g7 | rw [decide_eq_false (by omega)] at g7 | clear g7
  first | rw [decide_eq_true (by omega)] at g8 | rw [decide_eq_false (by omega)] at g8 | clear g8
  first | rw [decide_eq_true (by omega)] at hg | rw [decide_eq_false (by omega)] at hg
  clear hs he hp hsb heb hpb hsb2 heb2 hpb2 hse
  skip
  go_enter Tryz.func38, Tryz.ntmps38
  go_wp2_with fail
  go_ret2
  exact Ret.mk rfl (by repeat (first | (with_reducible exact Kp.refl _) | (with_reducible assumption) | (with_reducible apply Kp.ext) | (with_reducible apply Kp.alloc) | (with_reducible apply Kp.drew) | (with_reducible apply Kp.drewN) | (with_reducible refine Kp.setCell ?_ (by first | (dsimp only; omega) | (simp; omega) | (simp; done) | (simp [size_ext_eq]; omega)) _)))
set_option maxRecDepth 100000 in
set_option maxHeartbeats 1000000 in
theorem rayN_l3 {px py sx sy ex ey : Nat} {p s e : Int × Int} (hp : PtW px py p) (hs : PtW sx sy s) (he : PtW ex ey e) (h0 : s.1 ≤ e.1) (h1 : p.1 = s.1) (h2 : p.2 = s.2) (w : World) :
    Calls Tryz.prog 38 #[.agg #[.float .f64 px, .float .f64 py], .agg #[.float .f64 sx, .float .f64 sy], .agg #[.float .f64 ex, .float .f64 ey]] w (Ret w (.tuple #[.bool (upB s e p), .bool (onSegI s e p)])) := by
  obtain ⟨hpb, hpb2⟩ : (-1000 ≤ p.1 ∧ p.1 ≤ 1000) ∧ (-1000 ≤ p.2 ∧ p.2 ≤ 1000) := ⟨hp.bx, hp.b_y⟩
  obtain ⟨hsb, hsb2⟩ : (-1000 ≤ s.1 ∧ s.1 ≤ 1000) ∧ (-1000 ≤ s.2 ∧ s.2 ≤ 1000) := ⟨hs.bx, hs.b_y⟩
  obtain ⟨heb, heb2⟩ : (-1000 ≤ e.1 ∧ e.1 ≤ 1000) ∧ (-1000 ≤ e.2 ∧ e.2 ≤ 1000) := ⟨he.bx, he.b_y⟩
  have hse : s.1 ≤ e.1 := by omega
  have hg := gtF_int hs.x he.x
  have hv := v_end hse h1 h2
  rw [hv.1, hv.2]
  clear hv
  have f1 := eqF_int hp.x hs.x
  have f2 := eqF_int hp.y hs.y
  have f3 := eqF_int hs.x he.x
  have f4 := gtF_int hs.y he.y
  have f5 := geF_int hs.y hp.y
  have f6 := geF_int hp.y he.y
  have f7 := gtF_int he.y hs.y
  have f8 := geF_int he.y hp.y
  have f9 := geF_int hp.y hs.y
  have g1 := eqF_int hp.x he.x
  have g2 := eqF_int hp.y he.y
  have g3 := ltF_int hp.x hs.x
  have g4 := gtF_int hp.x he.x
  have g5 := gtF_int hp.y hs.y
  have g6 := ltF_int hp.y he.y
  have g7 := gtF_int hp.y he.y
  have g8 := ltF_int hp.y hs.y
  first | rw [decide_eq_true (by omega)] at f1 | rw [decide_eq_false (by omega)] at f1 | clear f1
  first | rw [decide_eq_true (by omega)] at f2 | rw [decide_eq_false (by omega)] at f2 | clear f2
  first | rw [decide_eq_true (by omega)] at f3 | rw [decide_eq_false (by omega)] at f3 | clear f3
  first | rw [decide_eq_true (by omega)] at f4 | rw [decide_eq_false (by omega)] at f4 | clear f4
  first | rw [decide_eq_true (by omega)] at f5 | rw [decide_eq_false (by omega)] at f5 | clear f5
  first | rw [decide_eq_true (by omega)] at f6 | rw [decide_eq_false (by omega)] at f6 | clear f6
  first | rw [decide_eq_true (by omega)] at f7 | rw [decide_eq_false (by omega)] at f7 | clear f7
  first | rw [decide_eq_true (by omega)] at f8 | rw [decide_eq_false (by omega)] at f8 | clear f8
  first | rw [decide_eq_true (by omega)] at f9 | rw [decide_eq_false (by omega)] at f9 | clear f9
  first | rw [decide_eq_true (by omega)] at g1 | rw [decide_eq_false (by omega)] at g1 | clear g1
  first | rw [decide_eq_true (by omega)] at g2 | rw [decide_eq_false (by omega)] at g2 | clear g2
  first | rw [decide_eq_true (by omega)] at g3 | rw [decide_eq_false (by omega)] at g3 | clear g3
  first | rw [decide_eq_true (by omega)] at g4 | rw [decide_eq_false (by omega)] at g4 | clear g4
  first | rw [decide_eq_true (by omega)] at g5 | rw [decide_eq_false (by omega)] at g5 | clear g5
  first | rw [decide_eq_true (by omega)] at g6 | rw [decide_eq_false (by omega)] at g6 | clear g6
  first | rw [decide_eq_true (by omega)] at g7 | rw [decide_eq_false (by omega)] at g7 | clear g7
  first | rw [decide_eq_true (by omega)] at g8 | rw [decide_eq_false (by omega)] at g8 | clear g8
  first | rw [decide_eq_true (by omega)] at hg | rw [decide_eq_false (by omega)] at hg
  clear hs he hp hsb heb hpb hsb2 heb2 hpb2 hse
  skip
  go_enter Tryz.func38, Tryz.ntmps38
  go_wp2_with fail
  go_ret2
  exact Ret.mk rfl (by repeat (first | (with_reducible exact Kp.refl _) | (with_reducible assumption) | (with_reducible apply Kp.ext) | (with_reducible apply Kp.alloc) | (with_reducible apply Kp.drew) | (with_reducible apply Kp.drewN) | (with_reducible refine Kp.setCell ?_ (by first | (dsimp only; omega) | (simp; omega) | (simp; done) | (simp [size_ext_eq]; omega)) _)))
set_option maxRecDepth 100000 in
set_option maxHeartbeats 1000000 in
theorem rayN_l7a {px py sx sy ex ey : Nat} {p s e : Int × Int} (hp : PtW px py p) (hs : PtW sx sy s) (he : PtW ex ey e) (h0 : s.1 < e.1) (h1 : p.1 = s.1) (h2 : e.2 < s.2) (h3 : s.2 < p.2) (w : World) :
    Calls Tryz.prog 38 #[.agg #[.float .f64 px, .float .f64 py], .agg #[.float .f64 sx, .float .f64 sy], .agg #[.float .f64 ex, .float .f64 ey]] w (Ret w (.tuple #[.bool (upB s e p), .bool (onSegI s e p)])) := by
  obtain ⟨hpb, hpb2⟩ : (-1000 ≤ p.1 ∧ p.1 ≤ 1000) ∧ (-1000 ≤ p.2 ∧ p.2 ≤ 1000) := ⟨hp.bx, hp.b_y⟩
  obtain ⟨hsb, hsb2⟩ : (-1000 ≤ s.1 ∧ s.1 ≤ 1000) ∧ (-1000 ≤ s.2 ∧ s.2 ≤ 1000) := ⟨hs.bx, hs.b_y⟩
  obtain ⟨heb, heb2⟩ : (-1000 ≤ e.1 ∧ e.1 ≤ 1000) ∧ (-1000 ≤ e.2 ∧ e.2 ≤ 1000) := ⟨he.bx, he.b_y⟩
  have hse : s.1 ≤ e.1 := by omega
  have hg := gtF_int hs.x he.x
  have hv := (v_at h0 h1).2 h3
  rw [hv.1, hv.2]
  clear hv
  obtain rfl : sx = px := by rw [hs.fx, hp.fx, show s.1 = p.1 by omega]
  have f1 := eqF_int hp.x hs.x
  have f2 := eqF_int hp.y hs.y
  have f3 := eqF_int hs.x he.x
  have f4 := gtF_int hs.y he.y
  have f5 := geF_int hs.y hp.y
  have f6 := geF_int hp.y he.y
  have f7 := gtF_int he.y hs.y
  have f8 := geF_int he.y hp.y
  have f9 := geF_int hp.y hs.y
  have g1 := eqF_int hp.x he.x
  have g2 := eqF_int hp.y he.y
  have g3 := ltF_int hp.x hs.x
  have g4 := gtF_int hp.x he.x
  have g5 := gtF_int hp.y hs.y
  have g6 := ltF_int hp.y he.y
  have g7 := gtF_int hp.y he.y
  have g8 := ltF_int hp.y hs.y
  obtain ⟨δ, δ0, δ1, hq⟩ := next_more (n := p.1) (by omega) (by omega)
  rw [← hp.fx] at hq
  have nx := Lib.hid (fun w => nextafter_c p.1 (by omega) (by omega) w)
  have hpx := hp.fx
  rw [← hpx] at nx
  clear hpx
  obtain ⟨n1, _⟩ := next_lt hq hs.x δ0 δ1
  obtain ⟨_, n2⟩ := next_lt hq he.x δ0 δ1
  clear hq
  first | rw [decide_eq_true (by omega)] at f1 | rw [decide_eq_false (by omega)] at f1 | clear f1
  first | rw [decide_eq_true (by omega)] at f2 | rw [decide_eq_false (by omega)] at f2 | clear f2
  first | rw [decide_eq_true (by omega)] at f3 | rw [decide_eq_false (by omega)] at f3 | clear f3
  first | rw [decide_eq_true (by omega)] at f4 | rw [decide_eq_false (by omega)] at f4 | clear f4
  first | rw [decide_eq_true (by omega)] at f5 | rw [decide_eq_false (by omega)] at f5 | clear f5
  first | rw [decide_eq_true (by omega)] at f6 | rw [decide_eq_false (by omega)] at f6 | clear f6
  first | rw [decide_eq_true (by omega)] at f7 | rw [decide_eq_false (by omega)] at f7 | clear f7
  first | rw [decide_eq_true (by omega)] at f8 | rw [decide_eq_false (by omega)] at f8 | clear f8
  first | rw [decide_eq_true (by omega)] at f9 | rw [decide_eq_false (by omega)] at f9 | clear f9
  first | rw [decide_eq_true (by omega)] at g1 | rw [decide_eq_false (by omega)] at g1 | clear g1
  first | rw [decide_eq_true (by omega)] at g2 | rw [decide_eq_false (by omega)] at g2 | clear g2
  first | rw [decide_eq_true (by omega)] at g3 | rw [decide_eq_false (by omega)] at g3 | clear g3
  first | rw [decide_eq_true (by omega)] at g4 | rw [decide_eq_false (by omega)] at g4 | clear g4
  first | rw [decide_eq_true (by omega)] at g5 | rw [decide_eq_false (by omega)] at g5 | clear g5
  first | rw [decide_eq_true (by omega)] at g6 | rw [decide_eq_false (by omega)] at g6 | clear g6
  first | rw [decide_eq_true (by omega)] at g7 | rw [decide_eq_false (by omega)] at g7 | clear g7
  first | rw [decide_eq_true (by omega)] at g8 | rw [decide_eq_false (by omega)] at g8 | clear g8
  first | rw [decide_eq_true (by omega)] at n1 | rw [decide_eq_false (by omega)] at n1 | clear n1
  first | rw [decide_eq_true (by omega)] at n2 | rw [decide_eq_false (by omega)] at n2 | clear n2
  first | rw [decide_eq_true (by omega)] at hg | rw [decide_eq_false (by omega)] at hg
  clear hs he hp hsb heb hpb hsb2 heb2 hpb2 hse
  skip
  go_enter Tryz.func38, Tryz.ntmps38
  go_wp2_with fail
  first | (with_reducible refine wp_region_ext_tail2 5 ?_ ?_ ?_) | refine wp_region_ext_tail 5 ?_ ?_ ?_
  kernel_rfl
  kernel_rfl
  simp only [List.take_succ_cons, List.take_zero, List.drop_succ_cons, List.drop_zero]
  repeat (go_big_quiet_step (first | (go_at_call 53; with_reducible exact Ret.quiet (inf_c _)) | (go_at_call 52; with_reducible exact Ret.quiet (nx.out _))))
  refine wpQuiet_nil ?_
  rintro _ ⟨u, rfl⟩
  go_wp2_with fail
  go_ret2
  exact Ret.mk rfl (by repeat (first | (with_reducible exact Kp.refl _) | (with_reducible assumption) | (with_reducible apply Kp.ext) | (with_reducible apply Kp.alloc) | (with_reducible apply Kp.drew) | (with_reducible apply Kp.drewN) | (with_reducible refine Kp.setCell ?_ (by first | (dsimp only; omega) | (simp; omega) | (simp; done) | (simp [size_ext_eq]; omega)) _)))
set_option maxRecDepth 100000 in
set_option maxHeartbeats 1000000 in
theorem rayN_l7b {px py sx sy ex ey : Nat} {p s e : Int × Int} (hp : PtW px py p) (hs : PtW sx sy s) (he : PtW ex ey e) (h0 : s.1 < e.1) (h1 : p.1 = s.1) (h2 : e.2 < s.2) (h3 : p.2 < e.2) (w : World) :
    Calls Tryz.prog 38 #[.agg #[.float .f64 px, .float .f64 py], .agg #[.float .f64 sx, .float .f64 sy], .agg #[.float .f64 ex, .float .f64 ey]] w (Ret w (.tuple #[.bool (upB s e p), .bool (onSegI s e p)])) := by
  obtain ⟨hpb, hpb2⟩ : (-1000 ≤ p.1 ∧ p.1 ≤ 1000) ∧ (-1000 ≤ p.2 ∧ p.2 ≤ 1000) := ⟨hp.bx, hp.b_y⟩
  obtain ⟨hsb, hsb2⟩ : (-1000 ≤ s.1 ∧ s.1 ≤ 1000) ∧ (-1000 ≤ s.2 ∧ s.2 ≤ 1000) := ⟨hs.bx, hs.b_y⟩
  obtain ⟨heb, heb2⟩ : (-1000 ≤ e.1 ∧ e.1 ≤ 1000) ∧ (-1000 ≤ e.2 ∧ e.2 ≤ 1000) := ⟨he.bx, he.b_y⟩
  have hse : s.1 ≤ e.1 := by omega
  have hg := gtF_int hs.x he.x
  have hv := (v_at h0 h1).1 (by omega)
  rw [hv.1, hv.2]
  clear hv
  obtain rfl : sx = px := by rw [hs.fx, hp.fx, show s.1 = p.1 by omega]
  have f1 := eqF_int hp.x hs.x
  have f2 := eqF_int hp.y hs.y
  have f3 := eqF_int hs.x he.x
  have f4 := gtF_int hs.y he.y
  have f5 := geF_int hs.y hp.y
  have f6 := geF_int hp.y he.y
  have f7 := gtF_int he.y hs.y
  have f8 := geF_int he.y hp.y
  have f9 := geF_int hp.y hs.y
  have g1 := eqF_int hp.x he.x
  have g2 := eqF_int hp.y he.y
  have g3 := ltF_int hp.x hs.x
  have g4 := gtF_int hp.x he.x
  have g5 := gtF_int hp.y hs.y
  have g6 := ltF_int hp.y he.y
  have g7 := gtF_int hp.y he.y
  have g8 := ltF_int hp.y hs.y
  obtain ⟨δ, δ0, δ1, hq⟩ := next_more (n := p.1) (by omega) (by omega)
  rw [← hp.fx] at hq
  have nx := Lib.hid (fun w => nextafter_c p.1 (by omega) (by omega) w)
  have hpx := hp.fx
  rw [← hpx] at nx
  clear hpx
  obtain ⟨n1, _⟩ := next_lt hq hs.x δ0 δ1
  obtain ⟨_, n2⟩ := next_lt hq he.x δ0 δ1
  clear hq
  first | rw [decide_eq_true (by omega)] at f1 | rw [decide_eq_false (by omega)] at f1 | clear f1
  first | rw [decide_eq_true (by omega)] at f2 | rw [decide_eq_false (by omega)] at f2 | clear f2
  first | rw [decide_eq_true (by omega)] at f3 | rw [decide_eq_false (by omega)] at f3 | clear f3
  first | rw [decide_eq_true (by omega)] at f4 | rw [decide_eq_false (by omega)] at f4 | clear f4
  first | rw [decide_eq_true (by omega)] at f5 | rw [decide_eq_false (by omega)] at f5 | clear f5
  first | rw [decide_eq_true (by omega)] at f6 | rw [decide_eq_false (by omega)] at f6 | clear f6
  first | rw [decide_eq_true (by omega)] at f7 | rw [decide_eq_false (by omega)] at f7 | clear f7
  first | rw [decide_eq_true (by omega)] at f8 | rw [decide_eq_false (by omega)] at f8 | clear f8
  first | rw [decide_eq_true (by omega)] at f9 | rw [decide_eq_false (by omega)] at f9 | clear f9
  first | rw [decide_eq_true (by omega)] at g1 | rw [decide_eq_false (by omega)] at g1 | clear g1
  first | rw [decide_eq_true (by omega)] at g2 | rw [decide_eq_false (by omega)] at g2 | clear g2
  first | rw [decide_eq_true (by omega)] at g3 | rw [decide_eq_false (by omega)] at g3 | clear g3
  first | rw [decide_eq_true (by omega)] at g4 | rw [decide_eq_false (by omega)] at g4 | clear g4
  first | rw [decide_eq_true (by omega)] at g5 | rw [decide_eq_false (by omega)] at g5 | clear g5
  first | rw [decide_eq_true (by omega)] at g6 | rw [decide_eq_false (by omega)] at g6 | clear g6
  first | rw [decide_eq_true (by omega)] at g7 | rw [decide_eq_false (by omega)] at g7 | clear g7
  first | rw [decide_eq_true (by omega)] at g8 | rw [decide_eq_false (by omega)] at g8 | clear g8
  first | rw [decide_eq_true (by omega)] at n1 | rw [decide_eq_false (by omega)] at n1 | clear n1
  first | rw [decide_eq_true (by omega)] at n2 | rw [decide_eq_false (by omega)] at n2 | clear n2
  first | rw [decide_eq_true (by omega)] at hg | rw [decide_eq_false (by omega)] at hg
  clear hs he hp hsb heb hpb hsb2 heb2 hpb2 hse
  skip
  go_enter Tryz.func38, Tryz.ntmps38
  go_wp2_with fail
  first | (with_reducible refine wp_region_ext_tail2 5 ?_ ?_ ?_) | refine wp_region_ext_tail 5 ?_ ?_ ?_
  kernel_rfl
  kernel_rfl
  simp only [List.take_succ_cons, List.take_zero, List.drop_succ_cons, List.drop_zero]
  repeat (go_big_quiet_step (first | (go_at_call 53; with_reducible exact Ret.quiet (inf_c _)) | (go_at_call 52; with_reducible exact Ret.quiet (nx.out _))))
  refine wpQuiet_nil ?_
  rintro _ ⟨u, rfl⟩
  go_wp2_with fail
  go_ret2
  exact Ret.mk rfl (by repeat (first | (with_reducible exact Kp.refl _) | (with_reducible assumption) | (with_reducible apply Kp.ext) | (with_reducible apply Kp.alloc) | (with_reducible apply Kp.drew) | (with_reducible apply Kp.drewN) | (with_reducible refine Kp.setCell ?_ (by first | (dsimp only; omega) | (simp; omega) | (simp; done) | (simp [size_ext_eq]; omega)) _)))
set_option maxRecDepth 100000 in
set_option maxHeartbeats 1000000 in
theorem rayN_l7c {px py sx sy ex ey : Nat} {p s e : Int × Int} (hp : PtW px py p) (hs : PtW sx sy s) (he : PtW ex ey e) (h0 : s.1 < e.1) (h1 : p.1 = s.1) (h2 : e.2 < s.2) (h3 : p.2 < s.2) (h4 : e.2 ≤ p.2) (w : World) :
    Calls Tryz.prog 38 #[.agg #[.float .f64 px, .float .f64 py], .agg #[.float .f64 sx, .float .f64 sy], .agg #[.float .f64 ex, .float .f64 ey]] w (Ret w (.tuple #[.bool (upB s e p), .bool (onSegI s e p)])) := by
  obtain ⟨hpb, hpb2⟩ : (-1000 ≤ p.1 ∧ p.1 ≤ 1000) ∧ (-1000 ≤ p.2 ∧ p.2 ≤ 1000) := ⟨hp.bx, hp.b_y⟩
  obtain ⟨hsb, hsb2⟩ : (-1000 ≤ s.1 ∧ s.1 ≤ 1000) ∧ (-1000 ≤ s.2 ∧ s.2 ≤ 1000) := ⟨hs.bx, hs.b_y⟩
  obtain ⟨heb, heb2⟩ : (-1000 ≤ e.1 ∧ e.1 ≤ 1000) ∧ (-1000 ≤ e.2 ∧ e.2 ≤ 1000) := ⟨he.bx, he.b_y⟩
  have hse : s.1 ≤ e.1 := by omega
  have hg := gtF_int hs.x he.x
  have hv := (v_at h0 h1).1 h3
  rw [hv.1, hv.2]
  clear hv
  obtain rfl : sx = px := by rw [hs.fx, hp.fx, show s.1 = p.1 by omega]
  have f1 := eqF_int hp.x hs.x
  have f2 := eqF_int hp.y hs.y
  have f3 := eqF_int hs.x he.x
  have f4 := gtF_int hs.y he.y
  have f5 := geF_int hs.y hp.y
  have f6 := geF_int hp.y he.y
  have f7 := gtF_int he.y hs.y
  have f8 := geF_int he.y hp.y
  have f9 := geF_int hp.y hs.y
  have g1 := eqF_int hp.x he.x
  have g2 := eqF_int hp.y he.y
  have g3 := ltF_int hp.x hs.x
  have g4 := gtF_int hp.x he.x
  have g5 := gtF_int hp.y hs.y
  have g6 := ltF_int hp.y he.y
  have g7 := gtF_int hp.y he.y
  have g8 := ltF_int hp.y hs.y
  obtain ⟨δ, δ0, δ1, hq⟩ := next_more (n := p.1) (by omega) (by omega)
  rw [← hp.fx] at hq
  have nx := Lib.hid (fun w => nextafter_c p.1 (by omega) (by omega) w)
  have hpx := hp.fx
  rw [← hpx] at nx
  clear hpx
  obtain ⟨n1, _⟩ := next_lt hq hs.x δ0 δ1
  obtain ⟨_, n2⟩ := next_lt hq he.x δ0 δ1
  clear hq
  obtain ⟨d1, v1⟩ := sub_int hp.y hs.y (by omega)
  obtain ⟨d3, v3⟩ := sub_int he.y hs.y (by omega)
  obtain ⟨d4, v4⟩ := sub_int he.x hs.x (by omega)
  obtain ⟨d6, r6, v6, m6, _⟩ := quo_fin v3 v4 (by omega) (by omega)
  obtain ⟨d2, d5, d7⟩ := quo_tiny v1 (by omega) (by omega) (by omega) hp.fx (by omega) (by omega)
  obtain ⟨c1, c2⟩ := d7 v6 m6
  clear d7 v1 v3 v4 v6 m6
  first | rw [decide_eq_true (by omega)] at f1 | rw [decide_eq_false (by omega)] at f1 | clear f1
  first | rw [decide_eq_true (by omega)] at f2 | rw [decide_eq_false (by omega)] at f2 | clear f2
  first | rw [decide_eq_true (by omega)] at f3 | rw [decide_eq_false (by omega)] at f3 | clear f3
  first | rw [decide_eq_true (by omega)] at f4 | rw [decide_eq_false (by omega)] at f4 | clear f4
  first | rw [decide_eq_true (by omega)] at f5 | rw [decide_eq_false (by omega)] at f5 | clear f5
  first | rw [decide_eq_true (by omega)] at f6 | rw [decide_eq_false (by omega)] at f6 | clear f6
  first | rw [decide_eq_true (by omega)] at f7 | rw [decide_eq_false (by omega)] at f7 | clear f7
  first | rw [decide_eq_true (by omega)] at f8 | rw [decide_eq_false (by omega)] at f8 | clear f8
  first | rw [decide_eq_true (by omega)] at f9 | rw [decide_eq_false (by omega)] at f9 | clear f9
  first | rw [decide_eq_true (by omega)] at g1 | rw [decide_eq_false (by omega)] at g1 | clear g1
  first | rw [decide_eq_true (by omega)] at g2 | rw [decide_eq_false (by omega)] at g2 | clear g2
  first | rw [decide_eq_true (by omega)] at g3 | rw [decide_eq_false (by omega)] at g3 | clear g3
  first | rw [decide_eq_true (by omega)] at g4 | rw [decide_eq_false (by omega)] at g4 | clear g4
  first | rw [decide_eq_true (by omega)] at g5 | rw [decide_eq_false (by omega)] at g5 | clear g5
  first | rw [decide_eq_true (by omega)] at g6 | rw [decide_eq_false (by omega)] at g6 | clear g6
  first | rw [decide_eq_true (by omega)] at g7 | rw [decide_eq_false (by omega)] at g7 | clear g7
  first | rw [decide_eq_true (by omega)] at g8 | rw [decide_eq_false (by omega)] at g8 | clear g8
  first | rw [decide_eq_true (by omega)] at n1 | rw [decide_eq_false (by omega)] at n1 | clear n1
  first | rw [decide_eq_true (by omega)] at n2 | rw [decide_eq_false (by omega)] at n2 | clear n2
  first | rw [decide_eq_true (by omega)] at c2 | rw [decide_eq_false (by omega)] at c2 | clear c2
  first | rw [decide_eq_true (by omega)] at hg | rw [decide_eq_false (by omega)] at hg
  clear hs he hp hsb heb hpb hsb2 heb2 hpb2 hse
  skip
  go_enter Tryz.func38, Tryz.ntmps38
  go_wp2_with fail
  first | (with_reducible refine wp_region_ext_tail2 5 ?_ ?_ ?_) | refine wp_region_ext_tail 5 ?_ ?_ ?_
  kernel_rfl
  kernel_rfl
  simp only [List.take_succ_cons, List.take_zero, List.drop_succ_cons, List.drop_zero]
  repeat (go_big_quiet_step (first | (go_at_call 53; with_reducible exact Ret.quiet (inf_c _)) | (go_at_call 52; with_reducible exact Ret.quiet (nx.out _))))
  refine wpQuiet_nil ?_
  rintro _ ⟨u, rfl⟩
  go_wp2_with fail
  go_ret2
  exact Ret.mk rfl (by repeat (first | (with_reducible exact Kp.refl _) | (with_reducible assumption) | (with_reducible apply Kp.ext) | (with_reducible apply Kp.alloc) | (with_reducible apply Kp.drew) | (with_reducible apply Kp.drewN) | (with_reducible refine Kp.setCell ?_ (by first | (dsimp only; omega) | (simp; omega) | (simp; done) | (simp [size_ext_eq]; omega)) _)))
set_option maxRecDepth 100000 in
set_option maxHeartbeats 1000000 in
theorem rayN_l7d {px py sx sy ex ey : Nat} {p s e : Int × Int} (hp : PtW px py p) (hs : PtW sx sy s) (he : PtW ex ey e) (h0 : s.1 < e.1) (h1 : p.1 = s.1) (h2 : s.2 ≤ e.2) (h3 : e.2 < p.2) (w : World) :
    Calls Tryz.prog 38 #[.agg #[.float .f64 px, .float .f64 py], .agg #[.float .f64 sx, .float .f64 sy], .agg #[.float .f64 ex, .float .f64 ey]] w (Ret w (.tuple #[.bool (upB s e p), .bool (onSegI s e p)])) := by
  obtain ⟨hpb, hpb2⟩ : (-1000 ≤ p.1 ∧ p.1 ≤ 1000) ∧ (-1000 ≤ p.2 ∧ p.2 ≤ 1000) := ⟨hp.bx, hp.b_y⟩
  obtain ⟨hsb, hsb2⟩ : (-1000 ≤ s.1 ∧ s.1 ≤ 1000) ∧ (-1000 ≤ s.2 ∧ s.2 ≤ 1000) := ⟨hs.bx, hs.b_y⟩
  obtain ⟨heb, heb2⟩ : (-1000 ≤ e.1 ∧ e.1 ≤ 1000) ∧ (-1000 ≤ e.2 ∧ e.2 ≤ 1000) := ⟨he.bx, he.b_y⟩
  have hse : s.1 ≤ e.1 := by omega
  have hg := gtF_int hs.x he.x
  have hv := (v_at h0 h1).2 (by omega)
  rw [hv.1, hv.2]
  clear hv
  obtain rfl : sx = px := by rw [hs.fx, hp.fx, show s.1 = p.1 by omega]
  have f1 := eqF_int hp.x hs.x
  have f2 := eqF_int hp.y hs.y
  have f3 := eqF_int hs.x he.x
  have f4 := gtF_int hs.y he.y
  have f5 := geF_int hs.y hp.y
  have f6 := geF_int hp.y he.y
  have f7 := gtF_int he.y hs.y
  have f8 := geF_int he.y hp.y
  have f9 := geF_int hp.y hs.y
  have g1 := eqF_int hp.x he.x
  have g2 := eqF_int hp.y he.y
  have g3 := ltF_int hp.x hs.x
  have g4 := gtF_int hp.x he.x
  have g5 := gtF_int hp.y hs.y
  have g6 := ltF_int hp.y he.y
  have g7 := gtF_int hp.y he.y
  have g8 := ltF_int hp.y hs.y
  obtain ⟨δ, δ0, δ1, hq⟩ := next_more (n := p.1) (by omega) (by omega)
  rw [← hp.fx] at hq
  have nx := Lib.hid (fun w => nextafter_c p.1 (by omega) (by omega) w)
  have hpx := hp.fx
  rw [← hpx] at nx
  clear hpx
  obtain ⟨n1, _⟩ := next_lt hq hs.x δ0 δ1
  obtain ⟨_, n2⟩ := next_lt hq he.x δ0 δ1
  clear hq
  first | rw [decide_eq_true (by omega)] at f1 | rw [decide_eq_false (by omega)] at f1 | clear f1
  first | rw [decide_eq_true (by omega)] at f2 | rw [decide_eq_false (by omega)] at f2 | clear f2
  first | rw [decide_eq_true (by omega)] at f3 | rw [decide_eq_false (by omega)] at f3 | clear f3
  first | rw [decide_eq_true (by omega)] at f4 | rw [decide_eq_false (by omega)] at f4 | clear f4
  first | rw [decide_eq_true (by omega)] at f5 | rw [decide_eq_false (by omega)] at f5 | clear f5
  first | rw [decide_eq_true (by omega)] at f6 | rw [decide_eq_false (by omega)] at f6 | clear f6
  first | rw [decide_eq_true (by omega)] at f7 | rw [decide_eq_false (by omega)] at f7 | clear f7
  first | rw [decide_eq_true (by omega)] at f8 | rw [decide_eq_false (by omega)] at f8 | clear f8
  first | rw [decide_eq_true (by omega)] at f9 | rw [decide_eq_false (by omega)] at f9 | clear f9
  first | rw [decide_eq_true (by omega)] at g1 | rw [decide_eq_false (by omega)] at g1 | clear g1
  first | rw [decide_eq_true (by omega)] at g2 | rw [decide_eq_false (by omega)] at g2 | clear g2
  first | rw [decide_eq_true (by omega)] at g3 | rw [decide_eq_false (by omega)] at g3 | clear g3
  first | rw [decide_eq_true (by omega)] at g4 | rw [decide_eq_false (by omega)] at g4 | clear g4
  first | rw [decide_eq_true (by omega)] at g5 | rw [decide_eq_false (by omega)] at g5 | clear g5
  first | rw [decide_eq_true (by omega)] at g6 | rw [decide_eq_false (by omega)] at g6 | clear g6
  first | rw [decide_eq_true (by omega)] at g7 | rw [decide_eq_false (by omega)] at g7 | clear g7
  first | rw [decide_eq_true (by omega)] at g8 | rw [decide_eq_false (by omega)] at g8 | clear g8
  first | rw [decide_eq_true (by omega)] at n1 | rw [decide_eq_false (by omega)] at n1 | clear n1
  first | rw [decide_eq_true (by omega)] at n2 | rw [decide_eq_false (by omega)] at n2 | clear n2
  first | rw [decide_eq_true (by omega)] at hg | rw [decide_eq_false (by omega)] at hg
  clear hs he hp hsb heb hpb hsb2 heb2 hpb2 hse
  skip
  go_enter Tryz.func38, Tryz.ntmps38
  go_wp2_with fail
  first | (with_reducible refine wp_region_ext_tail2 5 ?_ ?_ ?_) | refine wp_region_ext_tail 5 ?_ ?_ ?_
  kernel_rfl
  kernel_rfl
  simp only [List.take_succ_cons, List.take_zero, List.drop_succ_cons, List.drop_zero]
  repeat (go_big_quiet_step (first | (go_at_call 53; with_reducible exact Ret.quiet (inf_c _)) | (go_at_call 52; with_reducible exact Ret.quiet (nx.out _))))
  refine wpQuiet_nil ?_
  rintro _ ⟨u, rfl⟩
  go_wp2_with fail
  go_ret2
  exact Ret.mk rfl (by repeat (first | (with_reducible exact Kp.refl _) | (with_reducible assumption) | (with_reducible apply Kp.ext) | (with_reducible apply Kp.alloc) | (with_reducible apply Kp.drew) | (with_reducible apply Kp.drewN) | (with_reducible refine Kp.setCell ?_ (by first | (dsimp only; omega) | (simp; omega) | (simp; done) | (simp [size_ext_eq]; omega)) _)))
set_option maxRecDepth 100000 in
set_option maxHeartbeats 1000000 in
theorem rayN_l7e {px py sx sy ex ey : Nat} {p s e : Int × Int} (hp : PtW px py p) (hs : PtW sx sy s) (he : PtW ex ey e) (h0 : s.1 < e.1) (h1 : p.1 = s.1) (h2 : s.2 ≤ e.2) (h3 : p.2 < s.2) (w : World) :
    Calls Tryz.prog 38 #[.agg #[.float .f64 px, .float .f64 py], .agg #[.float .f64 sx, .float .f64 sy], .agg #[.float .f64 ex, .float .f64 ey]] w (Ret w (.tuple #[.bool (upB s e p), .bool (onSegI s e p)])) := by
  obtain ⟨hpb, hpb2⟩ : (-1000 ≤ p.1 ∧ p.1 ≤ 1000) ∧ (-1000 ≤ p.2 ∧ p.2 ≤ 1000) := ⟨hp.bx, hp.b_y⟩
  obtain ⟨hsb, hsb2⟩ : (-1000 ≤ s.1 ∧ s.1 ≤ 1000) ∧ (-1000 ≤ s.2 ∧ s.2 ≤ 1000) := ⟨hs.bx, hs.b_y⟩
  obtain ⟨heb, heb2⟩ : (-1000 ≤ e.1 ∧ e.1 ≤ 1000) ∧ (-1000 ≤ e.2 ∧ e.2 ≤ 1000) := ⟨he.bx, he.b_y⟩
  have hse : s.1 ≤ e.1 := by omega
  have hg := gtF_int hs.x he.x
  have hv := (v_at h0 h1).1 h3
  rw [hv.1, hv.2]
  clear hv
  obtain rfl : sx = px := by rw [hs.fx, hp.fx, show s.1 = p.1 by omega]
  have f1 := eqF_int hp.x hs.x
  have f2 := eqF_int hp.y hs.y
  have f3 := eqF_int hs.x he.x
  have f4 := gtF_int hs.y he.y
  have f5 := geF_int hs.y hp.y
  have f6 := geF_int hp.y he.y
  have f7 := gtF_int he.y hs.y
  have f8 := geF_int he.y hp.y
  have f9 := geF_int hp.y hs.y
  have g1 := eqF_int hp.x he.x
  have g2 := eqF_int hp.y he.y
  have g3 := ltF_int hp.x hs.x
  have g4 := gtF_int hp.x he.x
  have g5 := gtF_int hp.y hs.y
  have g6 := ltF_int hp.y he.y
  have g7 := gtF_int hp.y he.y
  have g8 := ltF_int hp.y hs.y
  obtain ⟨δ, δ0, δ1, hq⟩ := next_more (n := p.1) (by omega) (by omega)
  rw [← hp.fx] at hq
  have nx := Lib.hid (fun w => nextafter_c p.1 (by omega) (by omega) w)
  have hpx := hp.fx
  rw [← hpx] at nx
  clear hpx
  obtain ⟨n1, _⟩ := next_lt hq hs.x δ0 δ1
  obtain ⟨_, n2⟩ := next_lt hq he.x δ0 δ1
  clear hq
  first | rw [decide_eq_true (by omega)] at f1 | rw [decide_eq_false (by omega)] at f1 | clear f1
  first | rw [decide_eq_true (by omega)] at f2 | rw [decide_eq_false (by omega)] at f2 | clear f2
  first | rw [decide_eq_true (by omega)] at f3 | rw [decide_eq_false (by omega)] at f3 | clear f3
  first | rw [decide_eq_true (by omega)] at f4 | rw [decide_eq_false (by omega)] at f4 | clear f4
  first | rw [decide_eq_true (by omega)] at f5 | rw [decide_eq_false (by omega)] at f5 | clear f5
  first | rw [decide_eq_true (by omega)] at f6 | rw [decide_eq_false (by omega)] at f6 | clear f6
  first | rw [decide_eq_true (by omega)] at f7 | rw [decide_eq_false (by omega)] at f7 | clear f7
  first | rw [decide_eq_true (by omega)] at f8 | rw [decide_eq_false (by omega)] at f8 | clear f8
  first | rw [decide_eq_true (by omega)] at f9 | rw [decide_eq_false (by omega)] at f9 | clear f9
  first | rw [decide_eq_true (by omega)] at g1 | rw [decide_eq_false (by omega)] at g1 | clear g1
  first | rw [decide_eq_true (by omega)] at g2 | rw [decide_eq_false (by omega)] at g2 | clear g2
  first | rw [decide_eq_true (by omega)] at g3 | rw [decide_eq_false (by omega)] at g3 | clear g3
  first | rw [decide_eq_true (by omega)] at g4 | rw [decide_eq_false (by omega)] at g4 | clear g4
  first | rw [decide_eq_true (by omega)] at g5 | rw [decide_eq_false (by omega)] at g5 | clear g5
  first | rw [decide_eq_true (by omega)] at g6 | rw [decide_eq_false (by omega)] at g6 | clear g6
  first | rw [decide_eq_true (by omega)] at g7 | rw [decide_eq_false (by omega)] at g7 | clear g7
  first | rw [decide_eq_true (by omega)] at g8 | rw [decide_eq_false (by omega)] at g8 | clear g8
  first | rw [decide_eq_true (by omega)] at n1 | rw [decide_eq_false (by omega)] at n1 | clear n1
  first | rw [decide_eq_true (by omega)] at n2 | rw [decide_eq_false (by omega)] at n2 | clear n2
  first | rw [decide_eq_true (by omega)] at hg | rw [decide_eq_false (by omega)] at hg
  clear hs he hp hsb heb hpb hsb2 heb2 hpb2 hse
  skip
  go_enter Tryz.func38, Tryz.ntmps38
  go_wp2_with fail
  first | (with_reducible refine wp_region_ext_tail2 5 ?_ ?_ ?_) | refine wp_region_ext_tail 5 ?_ ?_ ?_
  kernel_rfl
  kernel_rfl
  simp only [List.take_succ_cons, List.take_zero, List.drop_succ_cons, List.drop_zero]
  repeat (go_big_quiet_step (first | (go_at_call 53; with_reducible exact Ret.quiet (inf_c _)) | (go_at_call 52; with_reducible exact Ret.quiet (nx.out _))))
  refine wpQuiet_nil ?_
  rintro _ ⟨u, rfl⟩
  go_wp2_with fail
  go_ret2
  exact Ret.mk rfl (by repeat (first | (with_reducible exact Kp.refl _) | (with_reducible assumption) | (with_reducible apply Kp.ext) | (with_reducible apply Kp.alloc) | (with_reducible apply Kp.drew) | (with_reducible apply Kp.drewN) | (with_reducible refine Kp.setCell ?_ (by first | (dsimp only; omega) | (simp; omega) | (simp; done) | (simp [size_ext_eq]; omega)) _)))
set_option maxRecDepth 100000 in
set_option maxHeartbeats 1000000 in
theorem rayN_l7f {px py sx sy ex ey : Nat} {p s e : Int × Int} (hp : PtW px py p) (hs : PtW sx sy s) (he : PtW ex ey e) (h0 : s.1 < e.1) (h1 : p.1 = s.1) (h2 : s.2 ≤ e.2) (h3 : s.2 < p.2) (h4 : p.2 ≤ e.2) (w : World) :
    Calls Tryz.prog 38 #[.agg #[.float .f64 px, .float .f64 py], .agg #[.float .f64 sx, .float .f64 sy], .agg #[.float .f64 ex, .float .f64 ey]] w (Ret w (.tuple #[.bool (upB s e p), .bool (onSegI s e p)])) := by
  obtain ⟨hpb, hpb2⟩ : (-1000 ≤ p.1 ∧ p.1 ≤ 1000) ∧ (-1000 ≤ p.2 ∧ p.2 ≤ 1000) := ⟨hp.bx, hp.b_y⟩
  obtain ⟨hsb, hsb2⟩ : (-1000 ≤ s.1 ∧ s.1 ≤ 1000) ∧ (-1000 ≤ s.2 ∧ s.2 ≤ 1000) := ⟨hs.bx, hs.b_y⟩
  obtain ⟨heb, heb2⟩ : (-1000 ≤ e.1 ∧ e.1 ≤ 1000) ∧ (-1000 ≤ e.2 ∧ e.2 ≤ 1000) := ⟨he.bx, he.b_y⟩
  have hse : s.1 ≤ e.1 := by omega
  have hg := gtF_int hs.x he.x
  have hv := (v_at h0 h1).2 h3
  rw [hv.1, hv.2]
  clear hv
  obtain rfl : sx = px := by rw [hs.fx, hp.fx, show s.1 = p.1 by omega]
  have f1 := eqF_int hp.x hs.x
  have f2 := eqF_int hp.y hs.y
  have f3 := eqF_int hs.x he.x
  have f4 := gtF_int hs.y he.y
  have f5 := geF_int hs.y hp.y
  have f6 := geF_int hp.y he.y
  have f7 := gtF_int he.y hs.y
  have f8 := geF_int he.y hp.y
  have f9 := geF_int hp.y hs.y
  have g1 := eqF_int hp.x he.x
  have g2 := eqF_int hp.y he.y
  have g3 := ltF_int hp.x hs.x
  have g4 := gtF_int hp.x he.x
  have g5 := gtF_int hp.y hs.y
  have g6 := ltF_int hp.y he.y
  have g7 := gtF_int hp.y he.y
  have g8 := ltF_int hp.y hs.y
  obtain ⟨δ, δ0, δ1, hq⟩ := next_more (n := p.1) (by omega) (by omega)
  rw [← hp.fx] at hq
  have nx := Lib.hid (fun w => nextafter_c p.1 (by omega) (by omega) w)
  have hpx := hp.fx
  rw [← hpx] at nx
  clear hpx
  obtain ⟨n1, _⟩ := next_lt hq hs.x δ0 δ1
  obtain ⟨_, n2⟩ := next_lt hq he.x δ0 δ1
  clear hq
  obtain ⟨d1, v1⟩ := sub_int hp.y hs.y (by omega)
  obtain ⟨d3, v3⟩ := sub_int he.y hs.y (by omega)
  obtain ⟨d4, v4⟩ := sub_int he.x hs.x (by omega)
  obtain ⟨d6, r6, v6, m6, _⟩ := quo_fin v3 v4 (by omega) (by omega)
  obtain ⟨d2, d5, d7⟩ := quo_tiny v1 (by omega) (by omega) (by omega) hp.fx (by omega) (by omega)
  obtain ⟨c1, c2⟩ := d7 v6 m6
  clear d7 v1 v3 v4 v6 m6
  first | rw [decide_eq_true (by omega)] at f1 | rw [decide_eq_false (by omega)] at f1 | clear f1
  first | rw [decide_eq_true (by omega)] at f2 | rw [decide_eq_false (by omega)] at f2 | clear f2
  first | rw [decide_eq_true (by omega)] at f3 | rw [decide_eq_false (by omega)] at f3 | clear f3
  first | rw [decide_eq_true (by omega)] at f4 | rw [decide_eq_false (by omega)] at f4 | clear f4
  first | rw [decide_eq_true (by omega)] at f5 | rw [decide_eq_false (by omega)] at f5 | clear f5
  first | rw [decide_eq_true (by omega)] at f6 | rw [decide_eq_false (by omega)] at f6 | clear f6
  first | rw [decide_eq_true (by omega)] at f7 | rw [decide_eq_false (by omega)] at f7 | clear f7
  first | rw [decide_eq_true (by omega)] at f8 | rw [decide_eq_false (by omega)] at f8 | clear f8
  first | rw [decide_eq_true (by omega)] at f9 | rw [decide_eq_false (by omega)] at f9 | clear f9
  first | rw [decide_eq_true (by omega)] at g1 | rw [decide_eq_false (by omega)] at g1 | clear g1
  first | rw [decide_eq_true (by omega)] at g2 | rw [decide_eq_false (by omega)] at g2 | clear g2
  first | rw [decide_eq_true (by omega)] at g3 | rw [decide_eq_false (by omega)] at g3 | clear g3
  first | rw [decide_eq_true (by omega)] at g4 | rw [decide_eq_false (by omega)] at g4 | clear g4
  first | rw [decide_eq_true (by omega)] at g5 | rw [decide_eq_false (by omega)] at g5 | clear g5
  first | rw [decide_eq_true (by omega)] at g6 | rw [decide_eq_false (by omega)] at g6 | clear g6
  first | rw [decide_eq_true (by omega)] at g7 | rw [decide_eq_false (by omega)] at g7 | clear g7
  first | rw [decide_eq_true (by omega)] at g8 | rw [decide_eq_false (by omega)] at g8 | clear g8
  first | rw [decide_eq_true (by omega)] at n1 | rw [decide_eq_false (by omega)] at n1 | clear n1
  first | rw [decide_eq_true (by omega)] at n2 | rw [decide_eq_false (by omega)] at n2 | clear n2
  first | rw [decide_eq_true (by omega)] at c2 | rw [decide_eq_false (by omega)] at c2 | clear c2
  first | rw [decide_eq_true (by omega)] at hg | rw [decide_eq_false (by omega)] at hg
  clear hs he hp hsb heb hpb hsb2 heb2 hpb2 hse
  skip
  go_enter Tryz.func38, Tryz.ntmps38
  go_wp2_with fail
  first | (with_reducible refine wp_region_ext_tail2 5 ?_ ?_ ?_) | refine wp_region_ext_tail 5 ?_ ?_ ?_
  kernel_rfl
  kernel_rfl
  simp only [List.take_succ_cons, List.take_zero, List.drop_succ_cons, List.drop_zero]
  repeat (go_big_quiet_step (first | (go_at_call 53; with_reducible exact Ret.quiet (inf_c _)) | (go_at_call 52; with_reducible exact Ret.quiet (nx.out _))))
  refine wpQuiet_nil ?_
  rintro _ ⟨u, rfl⟩
  go_wp2_with fail
  go_ret2
  exact Ret.mk rfl (by repeat (first | (with_reducible exact Kp.refl _) | (with_reducible assumption) | (with_reducible apply Kp.ext) | (with_reducible apply Kp.alloc) | (with_reducible apply Kp.drew) | (with_reducible apply Kp.drewN) | (with_reducible refine Kp.setCell ?_ (by first | (dsimp only; omega) | (simp; omega) | (simp; done) | (simp [size_ext_eq]; omega)) _)))
set_option maxRecDepth 100000 in
set_option maxHeartbeats 1000000 in
theorem rayN_l8 {px py sx sy ex ey : Nat} {p s e : Int × Int} (hp : PtW px py p) (hs : PtW sx sy s) (he : PtW ex ey e) (h0 : s.1 < e.1) (h1 : p.1 = e.1) (h2 : p.2 = e.2) (w : World) :
    Calls Tryz.prog 38 #[.agg #[.float .f64 px, .float .f64 py], .agg #[.float .f64 sx, .float .f64 sy], .agg #[.float .f64 ex, .float .f64 ey]] w (Ret w (.tuple #[.bool (upB s e p), .bool (onSegI s e p)])) := by
  obtain ⟨hpb, hpb2⟩ : (-1000 ≤ p.1 ∧ p.1 ≤ 1000) ∧ (-1000 ≤ p.2 ∧ p.2 ≤ 1000) := ⟨hp.bx, hp.b_y⟩
  obtain ⟨hsb, hsb2⟩ : (-1000 ≤ s.1 ∧ s.1 ≤ 1000) ∧ (-1000 ≤ s.2 ∧ s.2 ≤ 1000) := ⟨hs.bx, hs.b_y⟩
  obtain ⟨heb, heb2⟩ : (-1000 ≤ e.1 ∧ e.1 ≤ 1000) ∧ (-1000 ≤ e.2 ∧ e.2 ≤ 1000) := ⟨he.bx, he.b_y⟩
  have hse : s.1 ≤ e.1 := by omega
  have hg := gtF_int hs.x he.x
  have hv := v_end2 hse h1 h2
  rw [hv.1, hv.2]
  clear hv
  have f1 := eqF_int hp.x hs.x
  have f2 := eqF_int hp.y hs.y
  have f3 := eqF_int hs.x he.x
  have f4 := gtF_int hs.y he.y
  have f5 := geF_int hs.y hp.y
  have f6 := geF_int hp.y he.y
  have f7 := gtF_int he.y hs.y
  have f8 := geF_int he.y hp.y
  have f9 := geF_int hp.y hs.y
  have g1 := eqF_int hp.x he.x
  have g2 := eqF_int hp.y he.y
  have g3 := ltF_int hp.x hs.x
  have g4 := gtF_int hp.x he.x
  have g5 := gtF_int hp.y hs.y
  have g6 := ltF_int hp.y he.y
  have g7 := gtF_int hp.y he.y
  have g8 := ltF_int hp.y hs.y
  first | rw [decide_eq_true (by omega)] at f1 | rw [decide_eq_false (by omega)] at f1 | clear f1
  first | rw [decide_eq_true (by omega)] at f2 | rw [decide_eq_false (by omega)] at f2 | clear f2
  first | rw [decide_eq_true (by omega)] at f3 | rw [decide_eq_false (by omega)] at f3 | clear f3
  first | rw [decide_eq_true (by omega)] at f4 | rw [decide_eq_false (by omega)] at f4 | clear f4
  first | rw [decide_eq_true (by omega)] at f5 | rw [decide_eq_false (by omega)] at f5 | clear f5
  first | rw [decide_eq_true (by omega)] at f6 | rw [decide_eq_false (by omega)] at f6 | clear f6
  first | rw [decide_eq_true (by omega)] at f7 | rw [decide_eq_false (by omega)] at f7 | clear f7
  first | rw [decide_eq_true (by omega)] at f8 | rw [decide_eq_false (by omega)] at f8 | clear f8
  first | rw [decide_eq_true (by omega)] at f9 | rw [decide_eq_false (by omega)] at f9 | clear f9
  first | rw [decide_eq_true (by omega)] at g1 | rw [decide_eq_false (by omega)] at g1 | clear g1
  first | rw [decide_eq_true (by omega)] at g2 | rw [decide_eq_false (by omega)] at g2 | clear g2
  first | rw [decide_eq_true (by omega)] at g3 | rw [decide_eq_false (by omega)] at g3 | clear g3
  first | rw [decide_eq_true (by omega)] at g4 | rw [decide_eq_false (by omega)] at g4 | clear g4
  first | rw [decide_eq_true (by omega)] at g5 | rw [decide_eq_false (by omega)] at g5 | clear g5
  first | rw [decide_eq_true (by omega)] at g6 | rw [decide_eq_false (by omega)] at g6 | clear g6
  first | rw [decide_eq_true (by omega)] at g7 | rw [decide_eq_false (by omega)] at g7 | clear g7
  first | rw [decide_eq_true (by omega)] at g8 | rw [decide_eq_false (by omega)] at g8 | clear g8
  first | rw [decide_eq_true (by omega)] at hg | rw [decide_eq_false (by omega)] at hg
  clear hs he hp hsb heb hpb hsb2 heb2 hpb2 hse
  skip
  go_enter Tryz.func38, Tryz.ntmps38
  go_wp2_with fail
  go_ret2
  exact Ret.mk rfl (by repeat (first | (with_reducible exact Kp.refl _) | (with_reducible assumption) | (with_reducible apply Kp.ext) | (with_reducible apply Kp.alloc) | (with_reducible apply Kp.drew) | (with_reducible apply Kp.drewN) | (with_reducible refine Kp.setCell ?_ (by first | (dsimp only; omega) | (simp; omega) | (simp; done) | (simp [size_ext_eq]; omega)) _)))
set_option maxRecDepth 100000 in
set_option maxHeartbeats 1000000 in
theorem rayN_l9 {px py sx sy ex ey : Nat} {p s e : Int × Int} (hp : PtW px py p) (hs : PtW sx sy s) (he : PtW ex ey e) (h0 : s.1 < e.1) (h1 : p.1 = e.1) (h2 : p.2 ≠ e.2) (w : World) :
    Calls Tryz.prog 38 #[.agg #[.float .f64 px, .float .f64 py], .agg #[.float .f64 sx, .float .f64 sy], .agg #[.float .f64 ex, .float .f64 ey]] w (Ret w (.tuple #[.bool (upB s e p), .bool (onSegI s e p)])) := by
  obtain ⟨hpb, hpb2⟩ : (-1000 ≤ p.1 ∧ p.1 ≤ 1000) ∧ (-1000 ≤ p.2 ∧ p.2 ≤ 1000) := ⟨hp.bx, hp.b_y⟩
  obtain ⟨hsb, hsb2⟩ : (-1000 ≤ s.1 ∧ s.1 ≤ 1000) ∧ (-1000 ≤ s.2 ∧ s.2 ≤ 1000) := ⟨hs.bx, hs.b_y⟩
  obtain ⟨heb, heb2⟩ : (-1000 ≤ e.1 ∧ e.1 ≤ 1000) ∧ (-1000 ≤ e.2 ∧ e.2 ≤ 1000) := ⟨he.bx, he.b_y⟩
  have hse : s.1 ≤ e.1 := by omega
  have hg := gtF_int hs.x he.x
  have hv := v_end2_no h0 h1 h2
  rw [hv.1, hv.2]
  clear hv
  have f1 := eqF_int hp.x hs.x
  have f2 := eqF_int hp.y hs.y
  have f3 := eqF_int hs.x he.x
  have f4 := gtF_int hs.y he.y
  have f5 := geF_int hs.y hp.y
  have f6 := geF_int hp.y he.y
  have f7 := gtF_int he.y hs.y
  have f8 := geF_int he.y hp.y
  have f9 := geF_int hp.y hs.y
  have g1 := eqF_int hp.x he.x
  have g2 := eqF_int hp.y he.y
  have g3 := ltF_int hp.x hs.x
  have g4 := gtF_int hp.x he.x
  have g5 := gtF_int hp.y hs.y
  have g6 := ltF_int hp.y he.y
  have g7 := gtF_int hp.y he.y
  have g8 := ltF_int hp.y hs.y
  obtain ⟨δ, δ0, δ1, hq⟩ := next_more (n := p.1) (by omega) (by omega)
  rw [← hp.fx] at hq
  have nx := Lib.hid (fun w => nextafter_c p.1 (by omega) (by omega) w)
  have hpx := hp.fx
  rw [← hpx] at nx
  clear hpx
  obtain ⟨n1, _⟩ := next_lt hq hs.x δ0 δ1
  obtain ⟨_, n2⟩ := next_lt hq he.x δ0 δ1
  clear hq
  first | rw [decide_eq_true (by omega)] at f1 | rw [decide_eq_false (by omega)] at f1 | clear f1
  first | rw [decide_eq_true (by omega)] at f2 | rw [decide_eq_false (by omega)] at f2 | clear f2
  first | rw [decide_eq_true (by omega)] at f3 | rw [decide_eq_false (by omega)] at f3 | clear f3
  first | rw [decide_eq_true (by omega)] at f4 | rw [decide_eq_false (by omega)] at f4 | clear f4
  first | rw [decide_eq_true (by omega)] at f5 | rw [decide_eq_false (by omega)] at f5 | clear f5
  first | rw [decide_eq_true (by omega)] at f6 | rw [decide_eq_false (by omega)] at f6 | clear f6
  first | rw [decide_eq_true (by omega)] at f7 | rw [decide_eq_false (by omega)] at f7 | clear f7
  first | rw [decide_eq_true (by omega)] at f8 | rw [decide_eq_false (by omega)] at f8 | clear f8
  first | rw [decide_eq_true (by omega)] at f9 | rw [decide_eq_false (by omega)] at f9 | clear f9
  first | rw [decide_eq_true (by omega)] at g1 | rw [decide_eq_false (by omega)] at g1 | clear g1
  first | rw [decide_eq_true (by omega)] at g2 | rw [decide_eq_false (by omega)] at g2 | clear g2
  first | rw [decide_eq_true (by omega)] at g3 | rw [decide_eq_false (by omega)] at g3 | clear g3
  first | rw [decide_eq_true (by omega)] at g4 | rw [decide_eq_false (by omega)] at g4 | clear g4
  first | rw [decide_eq_true (by omega)] at g5 | rw [decide_eq_false (by omega)] at g5 | clear g5
  first | rw [decide_eq_true (by omega)] at g6 | rw [decide_eq_false (by omega)] at g6 | clear g6
  first | rw [decide_eq_true (by omega)] at g7 | rw [decide_eq_false (by omega)] at g7 | clear g7
  first | rw [decide_eq_true (by omega)] at g8 | rw [decide_eq_false (by omega)] at g8 | clear g8
  first | rw [decide_eq_true (by omega)] at n1 | rw [decide_eq_false (by omega)] at n1 | clear n1
  first | rw [decide_eq_true (by omega)] at n2 | rw [decide_eq_false (by omega)] at n2 | clear n2
  first | rw [decide_eq_true (by omega)] at hg | rw [decide_eq_false (by omega)] at hg
  clear hs he hp hsb heb hpb hsb2 heb2 hpb2 hse
  skip
  go_enter Tryz.func38, Tryz.ntmps38
  go_wp2_with fail
  first | (with_reducible refine wp_region_ext_tail2 5 ?_ ?_ ?_) | refine wp_region_ext_tail 5 ?_ ?_ ?_
  kernel_rfl
  kernel_rfl
  simp only [List.take_succ_cons, List.take_zero, List.drop_succ_cons, List.drop_zero]
  repeat (go_big_quiet_step (first | (go_at_call 53; with_reducible exact Ret.quiet (inf_c _)) | (go_at_call 52; with_reducible exact Ret.quiet (nx.out _))))
  refine wpQuiet_nil ?_
  rintro _ ⟨u, rfl⟩
  go_wp2_with fail
  go_ret2
  exact Ret.mk rfl (by repeat (first | (with_reducible exact Kp.refl _) | (with_reducible assumption) | (with_reducible apply Kp.ext) | (with_reducible apply Kp.alloc) | (with_reducible apply Kp.drew) | (with_reducible apply Kp.drewN) | (with_reducible refine Kp.setCell ?_ (by first | (dsimp only; omega) | (simp; omega) | (simp; done) | (simp [size_ext_eq]; omega)) _)))
set_option maxRecDepth 100000 in
set_option maxHeartbeats 1000000 in
theorem rayN_l10a {px py sx sy ex ey : Nat} {p s e : Int × Int} (hp : PtW px py p) (hs : PtW sx sy s) (he : PtW ex ey e) (h0 : s.1 < p.1) (h1 : p.1 < e.1) (h2 : e.2 < s.2) (h3 : s.2 < p.2) (w : World) :
    Calls Tryz.prog 38 #[.agg #[.float .f64 px, .float .f64 py], .agg #[.float .f64 sx, .float .f64 sy], .agg #[.float .f64 ex, .float .f64 ey]] w (Ret w (.tuple #[.bool (upB s e p), .bool (onSegI s e p)])) := by
  obtain ⟨hpb, hpb2⟩ : (-1000 ≤ p.1 ∧ p.1 ≤ 1000) ∧ (-1000 ≤ p.2 ∧ p.2 ≤ 1000) := ⟨hp.bx, hp.b_y⟩
  obtain ⟨hsb, hsb2⟩ : (-1000 ≤ s.1 ∧ s.1 ≤ 1000) ∧ (-1000 ≤ s.2 ∧ s.2 ≤ 1000) := ⟨hs.bx, hs.b_y⟩
  obtain ⟨heb, heb2⟩ : (-1000 ≤ e.1 ∧ e.1 ≤ 1000) ∧ (-1000 ≤ e.2 ∧ e.2 ≤ 1000) := ⟨he.bx, he.b_y⟩
  have hse : s.1 ≤ e.1 := by omega
  have hg := gtF_int hs.x he.x
  have hv := v_high h0 h1 h3 (by omega)
  rw [hv.1, hv.2]
  clear hv
  have f1 := eqF_int hp.x hs.x
  have f2 := eqF_int hp.y hs.y
  have f3 := eqF_int hs.x he.x
  have f4 := gtF_int hs.y he.y
  have f5 := geF_int hs.y hp.y
  have f6 := geF_int hp.y he.y
  have f7 := gtF_int he.y hs.y
  have f8 := geF_int he.y hp.y
  have f9 := geF_int hp.y hs.y
  have g1 := eqF_int hp.x he.x
  have g2 := eqF_int hp.y he.y
  have g3 := ltF_int hp.x hs.x
  have g4 := gtF_int hp.x he.x
  have g5 := gtF_int hp.y hs.y
  have g6 := ltF_int hp.y he.y
  have g7 := gtF_int hp.y he.y
  have g8 := ltF_int hp.y hs.y
  first | rw [decide_eq_true (by omega)] at f1 | rw [decide_eq_false (by omega)] at f1 | clear f1
  first | rw [decide_eq_true (by omega)] at f2 | rw [decide_eq_false (by omega)] at f2 | clear f2
  first | rw [decide_eq_true (by omega)] at f3 | rw [decide_eq_false (by omega)] at f3 | clear f3
  first | rw [decide_eq_true (by omega)] at f4 | rw [decide_eq_false (by omega)] at f4 | clear f4
  first | rw [decide_eq_true (by omega)] at f5 | rw [decide_eq_false (by omega)] at f5 | clear f5
  first | rw [decide_eq_true (by omega)] at f6 | rw [decide_eq_false (by omega)] at f6 | clear f6
  first | rw [decide_eq_true (by omega)] at f7 | rw [decide_eq_false (by omega)] at f7 | clear f7
  first | rw [decide_eq_true (by omega)] at f8 | rw [decide_eq_false (by omega)] at f8 | clear f8
  first | rw [decide_eq_true (by omega)] at f9 | rw [decide_eq_false (by omega)] at f9 | clear f9
  first | rw [decide_eq_true (by omega)] at g1 | rw [decide_eq_false (by omega)] at g1 | clear g1
  first | rw [decide_eq_true (by omega)] at g2 | rw [decide_eq_false (by omega)] at g2 | clear g2
  first | rw [decide_eq_true (by omega)] at g3 | rw [decide_eq_false (by omega)] at g3 | clear g3
  first | rw [decide_eq_true (by omega)] at g4 | rw [decide_eq_false (by omega)] at g4 | clear g4
  first | rw [decide_eq_true (by omega)] at g5 | rw [decide_eq_false (by omega)] at g5 | clear g5
  first | rw [decide_eq_true (by omega)] at g6 | rw [decide_eq_false (by omega)] at g6 | clear g6
  first | rw [decide_eq_true (by omega)] at g7 | rw [decide_eq_false (by omega)] at g7 | clear g7
  first | rw [decide_eq_true (by omega)] at g8 | rw [decide_eq_false (by omega)] at g8 | clear g8
  first | rw [decide_eq_true (by omega)] at hg | rw [decide_eq_false (by omega)] at hg
  clear hs he hp hsb heb hpb hsb2 heb2 hpb2 hse
  skip
  go_enter Tryz.func38, Tryz.ntmps38
  go_wp2_with fail
  go_ret2
  exact Ret.mk rfl (by repeat (first | (with_reducible exact Kp.refl _) | (with_reducible assumption) | (with_reducible apply Kp.ext) | (with_reducible apply Kp.alloc) | (with_reducible apply Kp.drew) | (with_reducible apply Kp.drewN) | (with_reducible refine Kp.setCell ?_ (by first | (dsimp only; omega) | (simp; omega) | (simp; done) | (simp [size_ext_eq]; omega)) _)))
set_option maxRecDepth 100000 in
set_option maxHeartbeats 1000000 in
theorem rayN_l10b {px py sx sy ex ey : Nat} {p s e : Int × Int} (hp : PtW px py p) (hs : PtW sx sy s) (he : PtW ex ey e) (h0 : s.1 < p.1) (h1 : p.1 < e.1) (h2 : e.2 < s.2) (h3 : p.2 < e.2) (w : World) :
    Calls Tryz.prog 38 #[.agg #[.float .f64 px, .float .f64 py], .agg #[.float .f64 sx, .float .f64 sy], .agg #[.float .f64 ex, .float .f64 ey]] w (Ret w (.tuple #[.bool (upB s e p), .bool (onSegI s e p)])) := by
  obtain ⟨hpb, hpb2⟩ : (-1000 ≤ p.1 ∧ p.1 ≤ 1000) ∧ (-1000 ≤ p.2 ∧ p.2 ≤ 1000) := ⟨hp.bx, hp.b_y⟩
  obtain ⟨hsb, hsb2⟩ : (-1000 ≤ s.1 ∧ s.1 ≤ 1000) ∧ (-1000 ≤ s.2 ∧ s.2 ≤ 1000) := ⟨hs.bx, hs.b_y⟩
  obtain ⟨heb, heb2⟩ : (-1000 ≤ e.1 ∧ e.1 ≤ 1000) ∧ (-1000 ≤ e.2 ∧ e.2 ≤ 1000) := ⟨he.bx, he.b_y⟩
  have hse : s.1 ≤ e.1 := by omega
  have hg := gtF_int hs.x he.x
  have hv := v_low h0 h1 (by omega) h3
  rw [hv.1, hv.2]
  clear hv
  have f1 := eqF_int hp.x hs.x
  have f2 := eqF_int hp.y hs.y
  have f3 := eqF_int hs.x he.x
  have f4 := gtF_int hs.y he.y
  have f5 := geF_int hs.y hp.y
  have f6 := geF_int hp.y he.y
  have f7 := gtF_int he.y hs.y
  have f8 := geF_int he.y hp.y
  have f9 := geF_int hp.y hs.y
  have g1 := eqF_int hp.x he.x
  have g2 := eqF_int hp.y he.y
  have g3 := ltF_int hp.x hs.x
  have g4 := gtF_int hp.x he.x
  have g5 := gtF_int hp.y hs.y
  have g6 := ltF_int hp.y he.y
  have g7 := gtF_int hp.y he.y
  have g8 := ltF_int hp.y hs.y
  first | rw [decide_eq_true (by omega)] at f1 | rw [decide_eq_false (by omega)] at f1 | clear f1
  first | rw [decide_eq_true (by omega)] at f2 | rw [decide_eq_false (by omega)] at f2 | clear f2
  first | rw [decide_eq_true (by omega)] at f3 | rw [decide_eq_false (by omega)] at f3 | clear f3
  first | rw [decide_eq_true (by omega)] at f4 | rw [decide_eq_false (by omega)] at f4 | clear f4
  first | rw [decide_eq_true (by omega)] at f5 | rw [decide_eq_false (by omega)] at f5 | clear f5
  first | rw [decide_eq_true (by omega)] at f6 | rw [decide_eq_false (by omega)] at f6 | clear f6
  first | rw [decide_eq_true (by omega)] at f7 | rw [decide_eq_false (by omega)] at f7 | clear f7
  first | rw [decide_eq_true (by omega)] at f8 | rw [decide_eq_false (by omega)] at f8 | clear f8
  first | rw [decide_eq_true (by omega)] at f9 | rw [decide_eq_false (by omega)] at f9 | clear f9
  first | rw [decide_eq_true (by omega)] at g1 | rw [decide_eq_false (by omega)] at g1 | clear g1
  first | rw [decide_eq_true (by omega)] at g2 | rw [decide_eq_false (by omega)] at g2 | clear g2
  first | rw [decide_eq_true (by omega)] at g3 | rw [decide_eq_false (by omega)] at g3 | clear g3
  first | rw [decide_eq_true (by omega)] at g4 | rw [decide_eq_false (by omega)] at g4 | clear g4
  first | rw [decide_eq_true (by omega)] at g5 | rw [decide_eq_false (by omega)] at g5 | clear g5
  first | rw [decide_eq_true (by omega)] at g6 | rw [decide_eq_false (by omega)] at g6 | clear g6
  first | rw [decide_eq_true (by omega)] at g7 | rw [decide_eq_false (by omega)] at g7 | clear g7
  first | rw [decide_eq_true (by omega)] at g8 | rw [decide_eq_false (by omega)] at g8 | clear g8
  first | rw [decide_eq_true (by omega)] at hg | rw [decide_eq_false (by omega)] at hg
  clear hs he hp hsb heb hpb hsb2 heb2 hpb2 hse
  skip
  go_enter Tryz.func38, Tryz.ntmps38
  go_wp2_with fail
  go_ret2
  exact Ret.mk rfl (by repeat (first | (with_reducible exact Kp.refl _) | (with_reducible assumption) | (with_reducible apply Kp.ext) | (with_reducible apply Kp.alloc) | (with_reducible apply Kp.drew) | (with_reducible apply Kp.drewN) | (with_reducible refine Kp.setCell ?_ (by first | (dsimp only; omega) | (simp; omega) | (simp; done) | (simp [size_ext_eq]; omega)) _)))
set_option maxRecDepth 100000 in
set_option maxHeartbeats 1000000 in
theorem rayN_l10d {px py sx sy ex ey : Nat} {p s e : Int × Int} (hp : PtW px py p) (hs : PtW sx sy s) (he : PtW ex ey e) (h0 : s.1 < p.1) (h1 : p.1 < e.1) (h2 : s.2 ≤ e.2) (h3 : e.2 < p.2) (w : World) :
    Calls Tryz.prog 38 #[.agg #[.float .f64 px, .float .f64 py], .agg #[.float .f64 sx, .float .f64 sy], .agg #[.float .f64 ex, .float .f64 ey]] w (Ret w (.tuple #[.bool (upB s e p), .bool (onSegI s e p)])) := by
  obtain ⟨hpb, hpb2⟩ : (-1000 ≤ p.1 ∧ p.1 ≤ 1000) ∧ (-1000 ≤ p.2 ∧ p.2 ≤ 1000) := ⟨hp.bx, hp.b_y⟩
  obtain ⟨hsb, hsb2⟩ : (-1000 ≤ s.1 ∧ s.1 ≤ 1000) ∧ (-1000 ≤ s.2 ∧ s.2 ≤ 1000) := ⟨hs.bx, hs.b_y⟩
  obtain ⟨heb, heb2⟩ : (-1000 ≤ e.1 ∧ e.1 ≤ 1000) ∧ (-1000 ≤ e.2 ∧ e.2 ≤ 1000) := ⟨he.bx, he.b_y⟩
  have hse : s.1 ≤ e.1 := by omega
  have hg := gtF_int hs.x he.x
  have hv := v_high h0 h1 (by omega) h3
  rw [hv.1, hv.2]
  clear hv
  have f1 := eqF_int hp.x hs.x
  have f2 := eqF_int hp.y hs.y
  have f3 := eqF_int hs.x he.x
  have f4 := gtF_int hs.y he.y
  have f5 := geF_int hs.y hp.y
  have f6 := geF_int hp.y he.y
  have f7 := gtF_int he.y hs.y
  have f8 := geF_int he.y hp.y
  have f9 := geF_int hp.y hs.y
  have g1 := eqF_int hp.x he.x
  have g2 := eqF_int hp.y he.y
  have g3 := ltF_int hp.x hs.x
  have g4 := gtF_int hp.x he.x
  have g5 := gtF_int hp.y hs.y
  have g6 := ltF_int hp.y he.y
  have g7 := gtF_int hp.y he.y
  have g8 := ltF_int hp.y hs.y
  first | rw [decide_eq_true (by omega)] at f1 | rw [decide_eq_false (by omega)] at f1 | clear f1
  first | rw [decide_eq_true (by omega)] at f2 | rw [decide_eq_false (by omega)] at f2 | clear f2
  first | rw [decide_eq_true (by omega)] at f3 | rw [decide_eq_false (by omega)] at f3 | clear f3
  first | rw [decide_eq_true (by omega)] at f4 | rw [decide_eq_false (by omega)] at f4 | clear f4
  first | rw [decide_eq_true (by omega)] at f5 | rw [decide_eq_false (by omega)] at f5 | clear f5
  first | rw [decide_eq_true (by omega)] at f6 | rw [decide_eq_false (by omega)] at f6 | clear f6
  first | rw [decide_eq_true (by omega)] at f7 | rw [decide_eq_false (by omega)] at f7 | clear f7
  first | rw [decide_eq_true (by omega)] at f8 | rw [decide_eq_false (by omega)] at f8 | clear f8
  first | rw [decide_eq_true (by omega)] at f9 | rw [decide_eq_false (by omega)] at f9 | clear f9
  first | rw [decide_eq_true (by omega)] at g1 | rw [decide_eq_false (by omega)] at g1 | clear g1
  first | rw [decide_eq_true (by omega)] at g2 | rw [decide_eq_false (by omega)] at g2 | clear g2
  first | rw [decide_eq_true (by omega)] at g3 | rw [decide_eq_false (by omega)] at g3 | clear g3
  first | rw [decide_eq_true (by omega)] at g4 | rw [decide_eq_false (by omega)] at g4 | clear g4
  first | rw [decide_eq_true (by omega)] at g5 | rw [decide_eq_false (by omega)] at g5 | clear g5
  first | rw [decide_eq_true (by omega)] at g6 | rw [decide_eq_false (by omega)] at g6 | clear g6
  first | rw [decide_eq_true (by omega)] at g7 | rw [decide_eq_false (by omega)] at g7 | clear g7
  first | rw [decide_eq_true (by omega)] at g8 | rw [decide_eq_false (by omega)] at g8 | clear g8
  first | rw [decide_eq_true (by omega)] at hg | rw [decide_eq_false (by omega)] at hg
  clear hs he hp hsb heb hpb hsb2 heb2 hpb2 hse
  skip
  go_enter Tryz.func38, Tryz.ntmps38
  go_wp2_with fail
  go_ret2
  exact Ret.mk rfl (by repeat (first | (with_reducible exact Kp.refl _) | (with_reducible assumption) | (with_reducible apply Kp.ext) | (with_reducible apply Kp.alloc) | (with_reducible apply Kp.drew) | (with_reducible apply Kp.drewN) | (with_reducible refine Kp.setCell ?_ (by first | (dsimp only; omega) | (simp; omega) | (simp; done) | (simp [size_ext_eq]; omega)) _)))
set_option maxRecDepth 100000 in
set_option maxHeartbeats 1000000 in
theorem rayN_l10e {px py sx sy ex ey : Nat} {p s e : Int × Int} (hp : PtW px py p) (hs : PtW sx sy s) (he : PtW ex ey e) (h0 : s.1 < p.1) (h1 : p.1 < e.1) (h2 : s.2 ≤ e.2) (h3 : p.2 < s.2) (w : World) :
    Calls Tryz.prog 38 #[.agg #[.float .f64 px, .float .f64 py], .agg #[.float .f64 sx, .float .f64 sy], .agg #[.float .f64 ex, .float .f64 ey]] w (Ret w (.tuple #[.bool (upB s e p), .bool (onSegI s e p)])) := by
  obtain ⟨hpb, hpb2⟩ : (-1000 ≤ p.1 ∧ p.1 ≤ 1000) ∧ (-1000 ≤ p.2 ∧ p.2 ≤ 1000) := ⟨hp.bx, hp.b_y⟩
  obtain ⟨hsb, hsb2⟩ : (-1000 ≤ s.1 ∧ s.1 ≤ 1000) ∧ (-1000 ≤ s.2 ∧ s.2 ≤ 1000) := ⟨hs.bx, hs.b_y⟩
  obtain ⟨heb, heb2⟩ : (-1000 ≤ e.1 ∧ e.1 ≤ 1000) ∧ (-1000 ≤ e.2 ∧ e.2 ≤ 1000) := ⟨he.bx, he.b_y⟩
  have hse : s.1 ≤ e.1 := by omega
  have hg := gtF_int hs.x he.x
  have hv := v_low h0 h1 h3 (by omega)
  rw [hv.1, hv.2]
  clear hv
  have f1 := eqF_int hp.x hs.x
  have f2 := eqF_int hp.y hs.y
  have f3 := eqF_int hs.x he.x
  have f4 := gtF_int hs.y he.y
  have f5 := geF_int hs.y hp.y
  have f6 := geF_int hp.y he.y
  have f7 := gtF_int he.y hs.y
  have f8 := geF_int he.y hp.y
  have f9 := geF_int hp.y hs.y
  have g1 := eqF_int hp.x he.x
  have g2 := eqF_int hp.y he.y
  have g3 := ltF_int hp.x hs.x
  have g4 := gtF_int hp.x he.x
  have g5 := gtF_int hp.y hs.y
  have g6 := ltF_int hp.y he.y
  have g7 := gtF_int hp.y he.y
  have g8 := ltF_int hp.y hs.y
  first | rw [decide_eq_true (by omega)] at f1 | rw [decide_eq_false (by omega)] at f1 | clear f1
  first | rw [decide_eq_true (by omega)] at f2 | rw [decide_eq_false (by omega)] at f2 | clear f2
  first | rw [decide_eq_true (by omega)] at f3 | rw [decide_eq_false (by omega)] at f3 | clear f3
  first | rw [decide_eq_true (by omega)] at f4 | rw [decide_eq_false (by omega)] at f4 | clear f4
  first | rw [decide_eq_true (by omega)] at f5 | rw [decide_eq_false (by omega)] at f5 | clear f5
  first | rw [decide_eq_true (by omega)] at f6 | rw [decide_eq_false (by omega)] at f6 | clear f6
  first | rw [decide_eq_true (by omega)] at f7 | rw [decide_eq_false (by omega)] at f7 | clear f7
  first | rw [decide_eq_true (by omega)] at f8 | rw [decide_eq_false (by omega)] at f8 | clear f8
  first | rw [decide_eq_true (by omega)] at f9 | rw [decide_eq_false (by omega)] at f9 | clear f9
  first | rw [decide_eq_true (by omega)] at g1 | rw [decide_eq_false (by omega)] at g1 | clear g1
  first | rw [decide_eq_true (by omega)] at g2 | rw [decide_eq_false (by omega)] at g2 | clear g2
  first | rw [decide_eq_true (by omega)] at g3 | rw [decide_eq_false (by omega)] at g3 | clear g3
  first | rw [decide_eq_true (by omega)] at g4 | rw [decide_eq_false (by omega)] at g4 | clear g4
  first | rw [decide_eq_true (by omega)] at g5 | rw [decide_eq_false (by omega)] at g5 | clear g5
  first | rw [decide_eq_true (by omega)] at g6 | rw [decide_eq_false (by omega)] at g6 | clear g6
  first | rw [decide_eq_true (by omega)] at g7 | rw [decide_eq_false (by omega)] at g7 | clear g7
  first | rw [decide_eq_true (by omega)] at g8 | rw [decide_eq_false (by omega)] at g8 | clear g8
  first | rw [decide_eq_true (by omega)] at hg | rw [decide_eq_false (by omega)] at hg
  clear hs he hp hsb heb hpb hsb2 heb2 hpb2 hse
  skip
  go_enter Tryz.func38, Tryz.ntmps38
  go_wp2_with fail
  go_ret2
  exact Ret.mk rfl (by repeat (first | (with_reducible exact Kp.refl _) | (with_reducible assumption) | (with_reducible apply Kp.ext) | (with_reducible apply Kp.alloc) | (with_reducible apply Kp.drew) | (with_reducible apply Kp.drewN) | (with_reducible refine Kp.setCell ?_ (by first | (dsimp only; omega) | (simp; omega) | (simp; done) | (simp [size_ext_eq]; omega)) _)))
set_option maxRecDepth 100000 in
set_option maxHeartbeats 1000000 in
theorem rayN_l10c0 {px py sx sy ex ey : Nat} {p s e : Int × Int} (hp : PtW px py p) (hs : PtW sx sy s) (he : PtW ex ey e) (h0 : s.1 < p.1) (h1 : p.1 < e.1) (h2 : e.2 < s.2) (h3 : p.2 ≤ s.2) (h4 : e.2 ≤ p.2) (h5 : (p.2 - s.2) * (e.1 - s.1) < (e.2 - s.2) * (p.1 - s.1)) (w : World) :
    Calls Tryz.prog 38 #[.agg #[.float .f64 px, .float .f64 py], .agg #[.float .f64 sx, .float .f64 sy], .agg #[.float .f64 ex, .float .f64 ey]] w (Ret w (.tuple #[.bool (upB s e p), .bool (onSegI s e p)])) := by
  obtain ⟨hpb, hpb2⟩ : (-1000 ≤ p.1 ∧ p.1 ≤ 1000) ∧ (-1000 ≤ p.2 ∧ p.2 ≤ 1000) := ⟨hp.bx, hp.b_y⟩
  obtain ⟨hsb, hsb2⟩ : (-1000 ≤ s.1 ∧ s.1 ≤ 1000) ∧ (-1000 ≤ s.2 ∧ s.2 ≤ 1000) := ⟨hs.bx, hs.b_y⟩
  obtain ⟨heb, heb2⟩ : (-1000 ≤ e.1 ∧ e.1 ≤ 1000) ∧ (-1000 ≤ e.2 ∧ e.2 ≤ 1000) := ⟨he.bx, he.b_y⟩
  have hse : s.1 ≤ e.1 := by omega
  have hg := gtF_int hs.x he.x
  have hv := (v_mid h0 h1 (by omega) (by omega)).1 h5
  rw [hv.1, hv.2]
  clear hv
  have f1 := eqF_int hp.x hs.x
  have f2 := eqF_int hp.y hs.y
  have f3 := eqF_int hs.x he.x
  have f4 := gtF_int hs.y he.y
  have f5 := geF_int hs.y hp.y
  have f6 := geF_int hp.y he.y
  have f7 := gtF_int he.y hs.y
  have f8 := geF_int he.y hp.y
  have f9 := geF_int hp.y hs.y
  have g1 := eqF_int hp.x he.x
  have g2 := eqF_int hp.y he.y
  have g3 := ltF_int hp.x hs.x
  have g4 := gtF_int hp.x he.x
  have g5 := gtF_int hp.y hs.y
  have g6 := ltF_int hp.y he.y
  have g7 := gtF_int hp.y he.y
  have g8 := ltF_int hp.y hs.y
  obtain ⟨d1, v1⟩ := sub_int hp.y hs.y (by omega)
  obtain ⟨d2, v2⟩ := sub_int hp.x hs.x (by omega)
  obtain ⟨d3, v3⟩ := sub_int he.y hs.y (by omega)
  obtain ⟨d4, v4⟩ := sub_int he.x hs.x (by omega)
  obtain ⟨d5, _⟩ := quo_fin v1 v2 (by omega) (by omega)
  obtain ⟨d6, _⟩ := quo_fin v3 v4 (by omega) (by omega)
  obtain ⟨c1, c2⟩ := quo_cmp v1 v2 v3 v4 (by omega) (by omega) (by omega) (by omega)
  first | rw [decide_eq_true (by omega)] at f1 | rw [decide_eq_false (by omega)] at f1 | clear f1
  first | rw [decide_eq_true (by omega)] at f2 | rw [decide_eq_false (by omega)] at f2 | clear f2
  first | rw [decide_eq_true (by omega)] at f3 | rw [decide_eq_false (by omega)] at f3 | clear f3
  first | rw [decide_eq_true (by omega)] at f4 | rw [decide_eq_false (by omega)] at f4 | clear f4
  first | rw [decide_eq_true (by omega)] at f5 | rw [decide_eq_false (by omega)] at f5 | clear f5
  first | rw [decide_eq_true (by omega)] at f6 | rw [decide_eq_false (by omega)] at f6 | clear f6
  first | rw [decide_eq_true (by omega)] at f7 | rw [decide_eq_false (by omega)] at f7 | clear f7
  first | rw [decide_eq_true (by omega)] at f8 | rw [decide_eq_false (by omega)] at f8 | clear f8
  first | rw [decide_eq_true (by omega)] at f9 | rw [decide_eq_false (by omega)] at f9 | clear f9
  first | rw [decide_eq_true (by omega)] at g1 | rw [decide_eq_false (by omega)] at g1 | clear g1
  first | rw [decide_eq_true (by omega)] at g2 | rw [decide_eq_false (by omega)] at g2 | clear g2
  first | rw [decide_eq_true (by omega)] at g3 | rw [decide_eq_false (by omega)] at g3 | clear g3
  first | rw [decide_eq_true (by omega)] at g4 | rw [decide_eq_false (by omega)] at g4 | clear g4
  first | rw [decide_eq_true (by omega)] at g5 | rw [decide_eq_false (by omega)] at g5 | clear g5
  first | rw [decide_eq_true (by omega)] at g6 | rw [decide_eq_false (by omega)] at g6 | clear g6
  first | rw [decide_eq_true (by omega)] at g7 | rw [decide_eq_false (by omega)] at g7 | clear g7
  first | rw [decide_eq_true (by omega)] at g8 | rw [decide_eq_false (by omega)] at g8 | clear g8
  first | rw [decide_eq_true (by omega)] at c1 | rw [decide_eq_false (by omega)] at c1 | clear c1
  first | rw [decide_eq_true (by omega)] at c2 | rw [decide_eq_false (by omega)] at c2 | clear c2
  first | rw [decide_eq_true (by omega)] at hg | rw [decide_eq_false (by omega)] at hg
  clear hs he hp hsb heb hpb hsb2 heb2 hpb2 hse
  skip
  go_enter Tryz.func38, Tryz.ntmps38
  go_wp2_with fail
  go_ret2
  exact Ret.mk rfl (by repeat (first | (with_reducible exact Kp.refl _) | (with_reducible assumption) | (with_reducible apply Kp.ext) | (with_reducible apply Kp.alloc) | (with_reducible apply Kp.drew) | (with_reducible apply Kp.drewN) | (with_reducible refine Kp.setCell ?_ (by first | (dsimp only; omega) | (simp; omega) | (simp; done) | (simp [size_ext_eq]; omega)) _)))
set_option maxRecDepth 100000 in
set_option maxHeartbeats 1000000 in
theorem rayN_l10c1 {px py sx sy ex ey : Nat} {p s e : Int × Int} (hp : PtW px py p) (hs : PtW sx sy s) (he : PtW ex ey e) (h0 : s.1 < p.1) (h1 : p.1 < e.1) (h2 : e.2 < s.2) (h3 : p.2 ≤ s.2) (h4 : e.2 ≤ p.2) (h5 : (p.2 - s.2) * (e.1 - s.1) = (e.2 - s.2) * (p.1 - s.1)) (w : World) :
    Calls Tryz.prog 38 #[.agg #[.float .f64 px, .float .f64 py], .agg #[.float .f64 sx, .float .f64 sy], .agg #[.float .f64 ex, .float .f64 ey]] w (Ret w (.tuple #[.bool (upB s e p), .bool (onSegI s e p)])) := by
  obtain ⟨hpb, hpb2⟩ : (-1000 ≤ p.1 ∧ p.1 ≤ 1000) ∧ (-1000 ≤ p.2 ∧ p.2 ≤ 1000) := ⟨hp.bx, hp.b_y⟩
  obtain ⟨hsb, hsb2⟩ : (-1000 ≤ s.1 ∧ s.1 ≤ 1000) ∧ (-1000 ≤ s.2 ∧ s.2 ≤ 1000) := ⟨hs.bx, hs.b_y⟩
  obtain ⟨heb, heb2⟩ : (-1000 ≤ e.1 ∧ e.1 ≤ 1000) ∧ (-1000 ≤ e.2 ∧ e.2 ≤ 1000) := ⟨he.bx, he.b_y⟩
  have hse : s.1 ≤ e.1 := by omega
  have hg := gtF_int hs.x he.x
  have hv := (v_mid h0 h1 (by omega) (by omega)).2.1 h5
  rw [hv.1, hv.2]
  clear hv
  have f1 := eqF_int hp.x hs.x
  have f2 := eqF_int hp.y hs.y
  have f3 := eqF_int hs.x he.x
  have f4 := gtF_int hs.y he.y
  have f5 := geF_int hs.y hp.y
  have f6 := geF_int hp.y he.y
  have f7 := gtF_int he.y hs.y
  have f8 := geF_int he.y hp.y
  have f9 := geF_int hp.y hs.y
  have g1 := eqF_int hp.x he.x
  have g2 := eqF_int hp.y he.y
  have g3 := ltF_int hp.x hs.x
  have g4 := gtF_int hp.x he.x
  have g5 := gtF_int hp.y hs.y
  have g6 := ltF_int hp.y he.y
  have g7 := gtF_int hp.y he.y
  have g8 := ltF_int hp.y hs.y
  obtain ⟨d1, v1⟩ := sub_int hp.y hs.y (by omega)
  obtain ⟨d2, v2⟩ := sub_int hp.x hs.x (by omega)
  obtain ⟨d3, v3⟩ := sub_int he.y hs.y (by omega)
  obtain ⟨d4, v4⟩ := sub_int he.x hs.x (by omega)
  obtain ⟨d5, _⟩ := quo_fin v1 v2 (by omega) (by omega)
  obtain ⟨d6, _⟩ := quo_fin v3 v4 (by omega) (by omega)
  obtain ⟨c1, c2⟩ := quo_cmp v1 v2 v3 v4 (by omega) (by omega) (by omega) (by omega)
  first | rw [decide_eq_true (by omega)] at f1 | rw [decide_eq_false (by omega)] at f1 | clear f1
  first | rw [decide_eq_true (by omega)] at f2 | rw [decide_eq_false (by omega)] at f2 | clear f2
  first | rw [decide_eq_true (by omega)] at f3 | rw [decide_eq_false (by omega)] at f3 | clear f3
  first | rw [decide_eq_true (by omega)] at f4 | rw [decide_eq_false (by omega)] at f4 | clear f4
  first | rw [decide_eq_true (by omega)] at f5 | rw [decide_eq_false (by omega)] at f5 | clear f5
  first | rw [decide_eq_true (by omega)] at f6 | rw [decide_eq_false (by omega)] at f6 | clear f6
  first | rw [decide_eq_true (by omega)] at f7 | rw [decide_eq_false (by omega)] at f7 | clear f7
  first | rw [decide_eq_true (by omega)] at f8 | rw [decide_eq_false (by omega)] at f8 | clear f8
  first | rw [decide_eq_true (by omega)] at f9 | rw [decide_eq_false (by omega)] at f9 | clear f9
  first | rw [decide_eq_true (by omega)] at g1 | rw [decide_eq_false (by omega)] at g1 | clear g1
  first | rw [decide_eq_true (by omega)] at g2 | rw [decide_eq_false (by omega)] at g2 | clear g2
  first | rw [decide_eq_true (by omega)] at g3 | rw [decide_eq_false (by omega)] at g3 | clear g3
  first | rw [decide_eq_true (by omega)] at g4 | rw [decide_eq_false (by omega)] at g4 | clear g4
  first | rw [decide_eq_true (by omega)] at g5 | rw [decide_eq_false (by omega)] at g5 | clear g5
  first | rw [decide_eq_true (by omega)] at g6 | rw [decide_eq_false (by omega)] at g6 | clear g6
  first | rw [decide_eq_true (by omega)] at g7 | rw [decide_eq_false (by omega)] at g7 | clear g7
  first | rw [decide_eq_true (by omega)] at g8 | rw [decide_eq_false (by omega)] at g8 | clear g8
  first | rw [decide_eq_true (by omega)] at c1 | rw [decide_eq_false (by omega)] at c1 | clear c1
  first | rw [decide_eq_true (by omega)] at c2 | rw [decide_eq_false (by omega)] at c2 | clear c2
  first | rw [decide_eq_true (by omega)] at hg | rw [decide_eq_false (by omega)] at hg
  clear hs he hp hsb heb hpb hsb2 heb2 hpb2 hse
  skip
  go_enter Tryz.func38, Tryz.ntmps38
  go_wp2_with fail
  go_ret2
  exact Ret.mk rfl (by repeat (first | (with_reducible exact Kp.refl _) | (with_reducible assumption) | (with_reducible apply Kp.ext) | (with_reducible apply Kp.alloc) | (with_reducible apply Kp.drew) | (with_reducible apply Kp.drewN) | (with_reducible refine Kp.setCell ?_ (by first | (dsimp only; omega) | (simp; omega) | (simp; done) | (simp [size_ext_eq]; omega)) _)))
set_option maxRecDepth 100000 in
set_option maxHeartbeats 1000000 in
theorem rayN_l10c2 {px py sx sy ex ey : Nat} {p s e : Int × Int} (hp : PtW px py p) (hs : PtW sx sy s) (he : PtW ex ey e) (h0 : s.1 < p.1) (h1 : p.1 < e.1) (h2 : e.2 < s.2) (h3 : p.2 ≤ s.2) (h4 : e.2 ≤ p.2) (h5 : (e.2 - s.2) * (p.1 - s.1) < (p.2 - s.2) * (e.1 - s.1)) (w : World) :
    Calls Tryz.prog 38 #[.agg #[.float .f64 px, .float .f64 py], .agg #[.float .f64 sx, .float .f64 sy], .agg #[.float .f64 ex, .float .f64 ey]] w (Ret w (.tuple #[.bool (upB s e p), .bool (onSegI s e p)])) := by
  obtain ⟨hpb, hpb2⟩ : (-1000 ≤ p.1 ∧ p.1 ≤ 1000) ∧ (-1000 ≤ p.2 ∧ p.2 ≤ 1000) := ⟨hp.bx, hp.b_y⟩
  obtain ⟨hsb, hsb2⟩ : (-1000 ≤ s.1 ∧ s.1 ≤ 1000) ∧ (-1000 ≤ s.2 ∧ s.2 ≤ 1000) := ⟨hs.bx, hs.b_y⟩
  obtain ⟨heb, heb2⟩ : (-1000 ≤ e.1 ∧ e.1 ≤ 1000) ∧ (-1000 ≤ e.2 ∧ e.2 ≤ 1000) := ⟨he.bx, he.b_y⟩
  have hse : s.1 ≤ e.1 := by omega
  have hg := gtF_int hs.x he.x
  have hv := (v_mid h0 h1 (by omega) (by omega)).2.2 h5
  rw [hv.1, hv.2]
  clear hv
  have f1 := eqF_int hp.x hs.x
  have f2 := eqF_int hp.y hs.y
  have f3 := eqF_int hs.x he.x
  have f4 := gtF_int hs.y he.y
  have f5 := geF_int hs.y hp.y
  have f6 := geF_int hp.y he.y
  have f7 := gtF_int he.y hs.y
  have f8 := geF_int he.y hp.y
  have f9 := geF_int hp.y hs.y
  have g1 := eqF_int hp.x he.x
  have g2 := eqF_int hp.y he.y
  have g3 := ltF_int hp.x hs.x
  have g4 := gtF_int hp.x he.x
  have g5 := gtF_int hp.y hs.y
  have g6 := ltF_int hp.y he.y
  have g7 := gtF_int hp.y he.y
  have g8 := ltF_int hp.y hs.y
  obtain ⟨d1, v1⟩ := sub_int hp.y hs.y (by omega)
  obtain ⟨d2, v2⟩ := sub_int hp.x hs.x (by omega)
  obtain ⟨d3, v3⟩ := sub_int he.y hs.y (by omega)
  obtain ⟨d4, v4⟩ := sub_int he.x hs.x (by omega)
  obtain ⟨d5, _⟩ := quo_fin v1 v2 (by omega) (by omega)
  obtain ⟨d6, _⟩ := quo_fin v3 v4 (by omega) (by omega)
  obtain ⟨c1, c2⟩ := quo_cmp v1 v2 v3 v4 (by omega) (by omega) (by omega) (by omega)
  first | rw [decide_eq_true (by omega)] at f1 | rw [decide_eq_false (by omega)] at f1 | clear f1
  first | rw [decide_eq_true (by omega)] at f2 | rw [decide_eq_false (by omega)] at f2 | clear f2
  first | rw [decide_eq_true (by omega)] at f3 | rw [decide_eq_false (by omega)] at f3 | clear f3
  first | rw [decide_eq_true (by omega)] at f4 | rw [decide_eq_false (by omega)] at f4 | clear f4
  first | rw [decide_eq_true (by omega)] at f5 | rw [decide_eq_false (by omega)] at f5 | clear f5
  first | rw [decide_eq_true (by omega)] at f6 | rw [decide_eq_false (by omega)] at f6 | clear f6
  first | rw [decide_eq_true (by omega)] at f7 | rw [decide_eq_false (by omega)] at f7 | clear f7
  first | rw [decide_eq_true (by omega)] at f8 | rw [decide_eq_false (by omega)] at f8 | clear f8
  first | rw [decide_eq_true (by omega)] at f9 | rw [decide_eq_false (by omega)] at f9 | clear f9
  first | rw [decide_eq_true (by omega)] at g1 | rw [decide_eq_false (by omega)] at g1 | clear g1
  first | rw [decide_eq_true (by omega)] at g2 | rw [decide_eq_false (by omega)] at g2 | clear g2
  first | rw [decide_eq_true (by omega)] at g3 | rw [decide_eq_false (by omega)] at g3 | clear g3
  first | rw [decide_eq_true (by omega)] at g4 | rw [decide_eq_false (by omega)] at g4 | clear g4
  first | rw [decide_eq_true (by omega)] at g5 | rw [decide_eq_false (by omega)] at g5 | clear g5
  first | rw [decide_eq_true (by omega)] at g6 | rw [decide_eq_false (by omega)] at g6 | clear g6
  first | rw [decide_eq_true (by omega)] at g7 | rw [decide_eq_false (by omega)] at g7 | clear g7
  first | rw [decide_eq_true (by omega)] at g8 | rw [decide_eq_false (by omega)] at g8 | clear g8
  first | rw [decide_eq_true (by omega)] at c1 | rw [decide_eq_false (by omega)] at c1 | clear c1
  first | rw [decide_eq_true (by omega)] at c2 | rw [decide_eq_false (by omega)] at c2 | clear c2
  first | rw [decide_eq_true (by omega)] at hg | rw [decide_eq_false (by omega)] at hg
  clear hs he hp hsb heb hpb hsb2 heb2 hpb2 hse
  skip
  go_enter Tryz.func38, Tryz.ntmps38
  go_wp2_with fail
  go_ret2
  exact Ret.mk rfl (by repeat (first | (with_reducible exact Kp.refl _) | (with_reducible assumption) | (with_reducible apply Kp.ext) | (with_reducible apply Kp.alloc) | (with_reducible apply Kp.drew) | (with_reducible apply Kp.drewN) | (with_reducible refine Kp.setCell ?_ (by first | (dsimp only; omega) | (simp; omega) | (simp; done) | (simp [size_ext_eq]; omega)) _)))
set_option maxRecDepth 100000 in
set_option maxHeartbeats 1000000 in
theorem rayN_l10f0 {px py sx sy ex ey : Nat} {p s e : Int × Int} (hp : PtW px py p) (hs : PtW sx sy s) (he : PtW ex ey e) (h0 : s.1 < p.1) (h1 : p.1 < e.1) (h2 : s.2 ≤ e.2) (h3 : p.2 ≤ e.2) (h4 : s.2 ≤ p.2) (h5 : (p.2 - s.2) * (e.1 - s.1) < (e.2 - s.2) * (p.1 - s.1)) (w : World) :
    Calls Tryz.prog 38 #[.agg #[.float .f64 px, .float .f64 py], .agg #[.float .f64 sx, .float .f64 sy], .agg #[.float .f64 ex, .float .f64 ey]] w (Ret w (.tuple #[.bool (upB s e p), .bool (onSegI s e p)])) := by
  obtain ⟨hpb, hpb2⟩ : (-1000 ≤ p.1 ∧ p.1 ≤ 1000) ∧ (-1000 ≤ p.2 ∧ p.2 ≤ 1000) := ⟨hp.bx, hp.b_y⟩
  obtain ⟨hsb, hsb2⟩ : (-1000 ≤ s.1 ∧ s.1 ≤ 1000) ∧ (-1000 ≤ s.2 ∧ s.2 ≤ 1000) := ⟨hs.bx, hs.b_y⟩
  obtain ⟨heb, heb2⟩ : (-1000 ≤ e.1 ∧ e.1 ≤ 1000) ∧ (-1000 ≤ e.2 ∧ e.2 ≤ 1000) := ⟨he.bx, he.b_y⟩
  have hse : s.1 ≤ e.1 := by omega
  have hg := gtF_int hs.x he.x
  have hv := (v_mid h0 h1 (by omega) (by omega)).1 h5
  rw [hv.1, hv.2]
  clear hv
  have f1 := eqF_int hp.x hs.x
  have f2 := eqF_int hp.y hs.y
  have f3 := eqF_int hs.x he.x
  have f4 := gtF_int hs.y he.y
  have f5 := geF_int hs.y hp.y
  have f6 := geF_int hp.y he.y
  have f7 := gtF_int he.y hs.y
  have f8 := geF_int he.y hp.y
  have f9 := geF_int hp.y hs.y
  have g1 := eqF_int hp.x he.x
  have g2 := eqF_int hp.y he.y
  have g3 := ltF_int hp.x hs.x
  have g4 := gtF_int hp.x he.x
  have g5 := gtF_int hp.y hs.y
  have g6 := ltF_int hp.y he.y
  have g7 := gtF_int hp.y he.y
  have g8 := ltF_int hp.y hs.y
  obtain ⟨d1, v1⟩ := sub_int hp.y hs.y (by omega)
  obtain ⟨d2, v2⟩ := sub_int hp.x hs.x (by omega)
  obtain ⟨d3, v3⟩ := sub_int he.y hs.y (by omega)
  obtain ⟨d4, v4⟩ := sub_int he.x hs.x (by omega)
  obtain ⟨d5, _⟩ := quo_fin v1 v2 (by omega) (by omega)
  obtain ⟨d6, _⟩ := quo_fin v3 v4 (by omega) (by omega)
  obtain ⟨c1, c2⟩ := quo_cmp v1 v2 v3 v4 (by omega) (by omega) (by omega) (by omega)
  first | rw [decide_eq_true (by omega)] at f1 | rw [decide_eq_false (by omega)] at f1 | clear f1
  first | rw [decide_eq_true (by omega)] at f2 | rw [decide_eq_false (by omega)] at f2 | clear f2
  first | rw [decide_eq_true (by omega)] at f3 | rw [decide_eq_false (by omega)] at f3 | clear f3
  first | rw [decide_eq_true (by omega)] at f4 | rw [decide_eq_false (by omega)] at f4 | clear f4
  first | rw [decide_eq_true (by omega)] at f5 | rw [decide_eq_false (by omega)] at f5 | clear f5
  first | rw [decide_eq_true (by omega)] at f6 | rw [decide_eq_false (by omega)] at f6 | clear f6
  first | rw [decide_eq_true (by omega)] at f7 | rw [decide_eq_false (by omega)] at f7 | clear f7
  first | rw [decide_eq_true (by omega)] at f8 | rw [decide_eq_false (by omega)] at f8 | clear f8
  first | rw [decide_eq_true (by omega)] at f9 | rw [decide_eq_false (by omega)] at f9 | clear f9
  first | rw [decide_eq_true (by omega)] at g1 | rw [decide_eq_false (by omega)] at g1 | clear g1
  first | rw [decide_eq_true (by omega)] at g2 | rw [decide_eq_false (by omega)] at g2 | clear g2
  first | rw [decide_eq_true (by omega)] at g3 | rw [decide_eq_false (by omega)] at g3 | clear g3
  first | rw [decide_eq_true (by omega)] at g4 | rw [decide_eq_false (by omega)] at g4 | clear g4
  first | rw [decide_eq_true (by omega)] at g5 | rw [decide_eq_false (by omega)] at g5 | clear g5
  first | rw [decide_eq_true (by omega)] at g6 | rw [decide_eq_false (by omega)] at g6 | clear g6
  first | rw [decide_eq_true (by omega)] at g7 | rw [decide_eq_false (by omega)] at g7 | clear g7
  first | rw [decide_eq_true (by omega)] at g8 | rw [decide_eq_false (by omega)] at g8 | clear g8
  first | rw [decide_eq_true (by omega)] at c1 | rw [decide_eq_false (by omega)] at c1 | clear c1
  first | rw [decide_eq_true (by omega)] at c2 | rw [decide_eq_false (by omega)] at c2 | clear c2
  first | rw [decide_eq_true (by omega)] at hg | rw [decide_eq_false (by omega)] at hg
  clear hs he hp hsb heb hpb hsb2 heb2 hpb2 hse
  skip
  go_enter Tryz.func38, Tryz.ntmps38
  go_wp2_with fail
  go_ret2
  exact Ret.mk rfl (by repeat (first | (with_reducible exact Kp.refl _) | (with_reducible assumption) | (with_reducible apply Kp.ext) | (with_reducible apply Kp.alloc) | (with_reducible apply Kp.drew) | (with_reducible apply Kp.drewN) | (with_reducible refine Kp.setCell ?_ (by first | (dsimp only; omega) | (simp; omega) | (simp; done) | (simp [size_ext_eq]; omega)) _)))
set_option maxRecDepth 100000 in
set_option maxHeartbeats 1000000 in
theorem rayN_l10f1 {px py sx sy ex ey : Nat} {p s e : Int × Int} (hp : PtW px py p) (hs : PtW sx sy s) (he : PtW ex ey e) (h0 : s.1 < p.1) (h1 : p.1 < e.1) (h2 : s.2 ≤ e.2) (h3 : p.2 ≤ e.2) (h4 : s.2 ≤ p.2) (h5 : (p.2 - s.2) * (e.1 - s.1) = (e.2 - s.2) * (p.1 - s.1)) (w : World) :
    Calls Tryz.prog 38 #[.agg #[.float .f64 px, .float .f64 py], .agg #[.float .f64 sx, .float .f64 sy], .agg #[.float .f64 ex, .float .f64 ey]] w (Ret w (.tuple #[.bool (upB s e p), .bool (onSegI s e p)])) := by
  obtain ⟨hpb, hpb2⟩ : (-1000 ≤ p.1 ∧ p.1 ≤ 1000) ∧ (-1000 ≤ p.2 ∧ p.2 ≤ 1000) := ⟨hp.bx, hp.b_y⟩
  obtain ⟨hsb, hsb2⟩ : (-1000 ≤ s.1 ∧ s.1 ≤ 1000) ∧ (-1000 ≤ s.2 ∧ s.2 ≤ 1000) := ⟨hs.bx, hs.b_y⟩
  obtain ⟨heb, heb2⟩ : (-1000 ≤ e.1 ∧ e.1 ≤ 1000) ∧ (-1000 ≤ e.2 ∧ e.2 ≤ 1000) := ⟨he.bx, he.b_y⟩
  have hse : s.1 ≤ e.1 := by omega
  have hg := gtF_int hs.x he.x
  have hv := (v_mid h0 h1 (by omega) (by omega)).2.1 h5
  rw [hv.1, hv.2]
  clear hv
  have f1 := eqF_int hp.x hs.x
  have f2 := eqF_int hp.y hs.y
  have f3 := eqF_int hs.x he.x
  have f4 := gtF_int hs.y he.y
  have f5 := geF_int hs.y hp.y
  have f6 := geF_int hp.y he.y
  have f7 := gtF_int he.y hs.y
  have f8 := geF_int he.y hp.y
  have f9 := geF_int hp.y hs.y
  have g1 := eqF_int hp.x he.x
  have g2 := eqF_int hp.y he.y
  have g3 := ltF_int hp.x hs.x
  have g4 := gtF_int hp.x he.x
  have g5 := gtF_int hp.y hs.y
  have g6 := ltF_int hp.y he.y
  have g7 := gtF_int hp.y he.y
  have g8 := ltF_int hp.y hs.y
  obtain ⟨d1, v1⟩ := sub_int hp.y hs.y (by omega)
  obtain ⟨d2, v2⟩ := sub_int hp.x hs.x (by omega)
  obtain ⟨d3, v3⟩ := sub_int he.y hs.y (by omega)
  obtain ⟨d4, v4⟩ := sub_int he.x hs.x (by omega)
  obtain ⟨d5, _⟩ := quo_fin v1 v2 (by omega) (by omega)
  obtain ⟨d6, _⟩ := quo_fin v3 v4 (by omega) (by omega)
  obtain ⟨c1, c2⟩ := quo_cmp v1 v2 v3 v4 (by omega) (by omega) (by omega) (by omega)
  first | rw [decide_eq_true (by omega)] at f1 | rw [decide_eq_false (by omega)] at f1 | clear f1
  first | rw [decide_eq_true (by omega)] at f2 | rw [decide_eq_false (by omega)] at f2 | clear f2
  first | rw [decide_eq_true (by omega)] at f3 | rw [decide_eq_false (by omega)] at f3 | clear f3
  first | rw [decide_eq_true (by omega)] at f4 | rw [decide_eq_false (by omega)] at f4 | clear f4
  first | rw [decide_eq_true (by omega)] at f5 | rw [decide_eq_false (by omega)] at f5 | clear f5
  first | rw [decide_eq_true (by omega)] at f6 | rw [decide_eq_false (by omega)] at f6 | clear f6
  first | rw [decide_eq_true (by omega)] at f7 | rw [decide_eq_false (by omega)] at f7 | clear f7
  first | rw [decide_eq_true (by omega)] at f8 | rw [decide_eq_false (by omega)] at f8 | clear f8
  first | rw [decide_eq_true (by omega)] at f9 | rw [decide_eq_false (by omega)] at f9 | clear f9
  first | rw [decide_eq_true (by omega)] at g1 | rw [decide_eq_false (by omega)] at g1 | clear g1
  first | rw [decide_eq_true (by omega)] at g2 | rw [decide_eq_false (by omega)] at g2 | clear g2
  first | rw [decide_eq_true (by omega)] at g3 | rw [decide_eq_false (by omega)] at g3 | clear g3
  first | rw [decide_eq_true (by omega)] at g4 | rw [decide_eq_false (by omega)] at g4 | clear g4
  first | rw [decide_eq_true (by omega)] at g5 | rw [decide_eq_false (by omega)] at g5 | clear g5
  first | rw [decide_eq_true (by omega)] at g6 | rw [decide_eq_false (by omega)] at g6 | clear g6
  first | rw [decide_eq_true (by omega)] at g7 | rw [decide_eq_false (by omega)] at g7 | clear g7
  first | rw [decide_eq_true (by omega)] at g8 | rw [decide_eq_false (by omega)] at g8 | clear g8
  first | rw [decide_eq_true (by omega)] at c1 | rw [decide_eq_false (by omega)] at c1 | clear c1
  first | rw [decide_eq_true (by omega)] at c2 | rw [decide_eq_false (by omega)] at c2 | clear c2
  first | rw [decide_eq_true (by omega)] at hg | rw [decide_eq_false (by omega)] at hg
  clear hs he hp hsb heb hpb hsb2 heb2 hpb2 hse
  skip
  go_enter Tryz.func38, Tryz.ntmps38
  go_wp2_with fail
  go_ret2
  exact Ret.mk rfl (by repeat (first | (with_reducible exact Kp.refl _) | (with_reducible assumption) | (with_reducible apply Kp.ext) | (with_reducible apply Kp.alloc) | (with_reducible apply Kp.drew) | (with_reducible apply Kp.drewN) | (with_reducible refine Kp.setCell ?_ (by first | (dsimp only; omega) | (simp; omega) | (simp; done) | (simp [size_ext_eq]; omega)) _)))
set_option maxRecDepth 100000 in
set_option maxHeartbeats 1000000 in
theorem rayN_l10f2 {px py sx sy ex ey : Nat} {p s e : Int × Int} (hp : PtW px py p) (hs : PtW sx sy s) (he : PtW ex ey e) (h0 : s.1 < p.1) (h1 : p.1 < e.1) (h2 : s.2 ≤ e.2) (h3 : p.2 ≤ e.2) (h4 : s.2 ≤ p.2) (h5 : (e.2 - s.2) * (p.1 - s.1) < (p.2 - s.2) * (e.1 - s.1)) (w : World) :
    Calls Tryz.prog 38 #[.agg #[.float .f64 px, .float .f64 py], .agg #[.float .f64 sx, .float .f64 sy], .agg #[.float .f64 ex, .float .f64 ey]] w (Ret w (.tuple #[.bool (upB s e p), .bool (onSegI s e p)])) := by
  obtain ⟨hpb, hpb2⟩ : (-1000 ≤ p.1 ∧ p.1 ≤ 1000) ∧ (-1000 ≤ p.2 ∧ p.2 ≤ 1000) := ⟨hp.bx, hp.b_y⟩
  obtain ⟨hsb, hsb2⟩ : (-1000 ≤ s.1 ∧ s.1 ≤ 1000) ∧ (-1000 ≤ s.2 ∧ s.2 ≤ 1000) := ⟨hs.bx, hs.b_y⟩
  obtain ⟨heb, heb2⟩ : (-1000 ≤ e.1 ∧ e.1 ≤ 1000) ∧ (-1000 ≤ e.2 ∧ e.2 ≤ 1000) := ⟨he.bx, he.b_y⟩
  have hse : s.1 ≤ e.1 := by omega
  have hg := gtF_int hs.x he.x
  have hv := (v_mid h0 h1 (by omega) (by omega)).2.2 h5
  rw [hv.1, hv.2]
  clear hv
  have f1 := eqF_int hp.x hs.x
  have f2 := eqF_int hp.y hs.y
  have f3 := eqF_int hs.x he.x
  have f4 := gtF_int hs.y he.y
  have f5 := geF_int hs.y hp.y
  have f6 := geF_int hp.y he.y
  have f7 := gtF_int he.y hs.y
  have f8 := geF_int he.y hp.y
  have f9 := geF_int hp.y hs.y
  have g1 := eqF_int hp.x he.x
  have g2 := eqF_int hp.y he.y
  have g3 := ltF_int hp.x hs.x
  have g4 := gtF_int hp.x he.x
  have g5 := gtF_int hp.y hs.y
  have g6 := ltF_int hp.y he.y
  have g7 := gtF_int hp.y he.y
  have g8 := ltF_int hp.y hs.y
  obtain ⟨d1, v1⟩ := sub_int hp.y hs.y (by omega)
  obtain ⟨d2, v2⟩ := sub_int hp.x hs.x (by omega)
  obtain ⟨d3, v3⟩ := sub_int he.y hs.y (by omega)
  obtain ⟨d4, v4⟩ := sub_int he.x hs.x (by omega)
  obtain ⟨d5, _⟩ := quo_fin v1 v2 (by omega) (by omega)
  obtain ⟨d6, _⟩ := quo_fin v3 v4 (by omega) (by omega)
  obtain ⟨c1, c2⟩ := quo_cmp v1 v2 v3 v4 (by omega) (by omega) (by omega) (by omega)
  first | rw [decide_eq_true (by omega)] at f1 | rw [decide_eq_false (by omega)] at f1 | clear f1
  first | rw [decide_eq_true (by omega)] at f2 | rw [decide_eq_false (by omega)] at f2 | clear f2
  first | rw [decide_eq_true (by omega)] at f3 | rw [decide_eq_false (by omega)] at f3 | clear f3
  first | rw [decide_eq_true (by omega)] at f4 | rw [decide_eq_false (by omega)] at f4 | clear f4
  first | rw [decide_eq_true (by omega)] at f5 | rw [decide_eq_false (by omega)] at f5 | clear f5
  first | rw [decide_eq_true (by omega)] at f6 | rw [decide_eq_false (by omega)] at f6 | clear f6
  first | rw [decide_eq_true (by omega)] at f7 | rw [decide_eq_false (by omega)] at f7 | clear f7
  first | rw [decide_eq_true (by omega)] at f8 | rw [decide_eq_false (by omega)] at f8 | clear f8
  first | rw [decide_eq_true (by omega)] at f9 | rw [decide_eq_false (by omega)] at f9 | clear f9
  first | rw [decide_eq_true (by omega)] at g1 | rw [decide_eq_false (by omega)] at g1 | clear g1
  first | rw [decide_eq_true (by omega)] at g2 | rw [decide_eq_false (by omega)] at g2 | clear g2
  first | rw [decide_eq_true (by omega)] at g3 | rw [decide_eq_false (by omega)] at g3 | clear g3
  first | rw [decide_eq_true (by omega)] at g4 | rw [decide_eq_false (by omega)] at g4 | clear g4
  first | rw [decide_eq_true (by omega)] at g5 | rw [decide_eq_false (by omega)] at g5 | clear g5
  first | rw [decide_eq_true (by omega)] at g6 | rw [decide_eq_false (by omega)] at g6 | clear g6
  first | rw [decide_eq_true (by omega)] at g7 | rw [decide_eq_false (by omega)] at g7 | clear g7
  first | rw [decide_eq_true (by omega)] at g8 | rw [decide_eq_false (by omega)] at g8 | clear g8
  first | rw [decide_eq_true (by omega)] at c1 | rw [decide_eq_false (by omega)] at c1 | clear c1
  first | rw [decide_eq_true (by omega)] at c2 | rw [decide_eq_false (by omega)] at c2 | clear c2
  first | rw [decide_eq_true (by omega)] at hg | rw [decide_eq_false (by omega)] at hg
  clear hs he hp hsb heb hpb hsb2 heb2 hpb2 hse
  skip
  go_enter Tryz.func38, Tryz.ntmps38
  go_wp2_with fail
  go_ret2
  exact Ret.mk rfl (by repeat (first | (with_reducible exact Kp.refl _) | (with_reducible assumption) | (with_reducible apply Kp.ext) | (with_reducible apply Kp.alloc) | (with_reducible apply Kp.drew) | (with_reducible apply Kp.drewN) | (with_reducible refine Kp.setCell ?_ (by first | (dsimp only; omega) | (simp; omega) | (simp; done) | (simp [size_ext_eq]; omega)) _)))
set_option maxRecDepth 100000 in
set_option maxHeartbeats 1000000 in
theorem rayN_l4 {px py sx sy ex ey : Nat} {p s e : Int × Int} (hp : PtW px py p) (hs : PtW sx sy s) (he : PtW ex ey e) (h0 : s.1 = e.1) (h1 : p.1 = s.1) (h2 : p.2 ≠ s.2) (h3 : e.2 < s.2) (h4 : p.2 ≤ s.2) (h5 : e.2 ≤ p.2) (w : World) :
    Calls Tryz.prog 38 #[.agg #[.float .f64 px, .float .f64 py], .agg #[.float .f64 sx, .float .f64 sy], .agg #[.float .f64 ex, .float .f64 ey]] w (Ret w (.tuple #[.bool (upB s e p), .bool (onSegI s e p)])) := by
  obtain ⟨hpb, hpb2⟩ : (-1000 ≤ p.1 ∧ p.1 ≤ 1000) ∧ (-1000 ≤ p.2 ∧ p.2 ≤ 1000) := ⟨hp.bx, hp.b_y⟩
  obtain ⟨hsb, hsb2⟩ : (-1000 ≤ s.1 ∧ s.1 ≤ 1000) ∧ (-1000 ≤ s.2 ∧ s.2 ≤ 1000) := ⟨hs.bx, hs.b_y⟩
  obtain ⟨heb, heb2⟩ : (-1000 ≤ e.1 ∧ e.1 ≤ 1000) ∧ (-1000 ≤ e.2 ∧ e.2 ≤ 1000) := ⟨he.bx, he.b_y⟩
  have hse : s.1 ≤ e.1 := by omega
  have hg := gtF_int hs.x he.x
  have hv := v_upr h0 h1 (by omega) (by omega)
  rw [hv.1, hv.2]
  clear hv
  have f1 := eqF_int hp.x hs.x
  have f2 := eqF_int hp.y hs.y
  have f3 := eqF_int hs.x he.x
  have f4 := gtF_int hs.y he.y
  have f5 := geF_int hs.y hp.y
  have f6 := geF_int hp.y he.y
  have f7 := gtF_int he.y hs.y
  have f8 := geF_int he.y hp.y
  have f9 := geF_int hp.y hs.y
  have g1 := eqF_int hp.x he.x
  have g2 := eqF_int hp.y he.y
  have g3 := ltF_int hp.x hs.x
  have g4 := gtF_int hp.x he.x
  have g5 := gtF_int hp.y hs.y
  have g6 := ltF_int hp.y he.y
  have g7 := gtF_int hp.y he.y
  have g8 := ltF_int hp.y hs.y
  first | rw [decide_eq_true (by omega)] at f1 | rw [decide_eq_false (by omega)] at f1 | clear f1
  first | rw [decide_eq_true (by omega)] at f2 | rw [decide_eq_false (by omega)] at f2 | clear f2
  first | rw [decide_eq_true (by omega)] at f3 | rw [decide_eq_false (by omega)] at f3 | clear f3
  first | rw [decide_eq_true (by omega)] at f4 | rw [decide_eq_false (by omega)] at f4 | clear f4
  first | rw [decide_eq_true (by omega)] at f5 | rw [decide_eq_false (by omega)] at f5 | clear f5
  first | rw [decide_eq_true (by omega)] at f6 | rw [decide_eq_false (by omega)] at f6 | clear f6
  first | rw [decide_eq_true (by omega)] at f7 | rw [decide_eq_false (by omega)] at f7 | clear f7
  first | rw [decide_eq_true (by omega)] at f8 | rw [decide_eq_false (by omega)] at f8 | clear f8
  first | rw [decide_eq_true (by omega)] at f9 | rw [decide_eq_false (by omega)] at f9 | clear f9
  first | rw [decide_eq_true (by omega)] at g1 | rw [decide_eq_false (by omega)] at g1 | clear g1
  first | rw [decide_eq_true (by omega)] at g2 | rw [decide_eq_false (by omega)] at g2 | clear g2
  first | rw [decide_eq_true (by omega)] at g3 | rw [decide_eq_false (by omega)] at g3 | clear g3
  first | rw [decide_eq_true (by omega)] at g4 | rw [decide_eq_false (by omega)] at g4 | clear g4
  first | rw [decide_eq_true (by omega)] at g5 | rw [decide_eq_false (by omega)] at g5 | clear g5
  first | rw [decide_eq_true (by omega)] at g6 | rw [decide_eq_false (by omega)] at g6 | clear g6
  first | rw [decide_eq_true (by omega)] at g7 | rw [decide_eq_false (by omega)] at g7 | clear g7
  first | rw [decide_eq_true (by omega)] at g8 | rw [decide_eq_false (by omega)] at g8 | clear g8
  first | rw [decide_eq_true (by omega)] at hg | rw [decide_eq_false (by omega)] at hg
  clear hs he hp hsb heb hpb hsb2 heb2 hpb2 hse
  skip
  go_enter Tryz.func38, Tryz.ntmps38
  go_wp2_with fail
  go_ret2
  exact Ret.mk rfl (by repeat (first | (with_reducible exact Kp.refl _) | (with_reducible assumption) | (with_reducible apply Kp.ext) | (with_reducible apply Kp.alloc) | (with_reducible apply Kp.drew) | (with_reducible apply Kp.drewN) | (with_reducible refine Kp.setCell ?_ (by first | (dsimp only; omega) | (simp; omega) | (simp; done) | (simp [size_ext_eq]; omega)) _)))
set_option maxRecDepth 100000 in
set_option maxHeartbeats 1000000 in
theorem rayN_l5 {px py sx sy ex ey : Nat} {p s e : Int × Int} (hp : PtW px py p) (hs : PtW sx sy s) (he : PtW ex ey e) (h0 : s.1 = e.1) (h1 : p.1 = s.1) (h2 : p.2 ≠ s.2) (h3 : s.2 < e.2) (h4 : p.2 ≤ e.2) (h5 : s.2 ≤ p.2) (w : World) :
    Calls Tryz.prog 38 #[.agg #[.float .f64 px, .float .f64 py], .agg #[.float .f64 sx, .float .f64 sy], .agg #[.float .f64 ex, .float .f64 ey]] w (Ret w (.tuple #[.bool (upB s e p), .bool (onSegI s e p)])) := by
  obtain ⟨hpb, hpb2⟩ : (-1000 ≤ p.1 ∧ p.1 ≤ 1000) ∧ (-1000 ≤ p.2 ∧ p.2 ≤ 1000) := ⟨hp.bx, hp.b_y⟩
  obtain ⟨hsb, hsb2⟩ : (-1000 ≤ s.1 ∧ s.1 ≤ 1000) ∧ (-1000 ≤ s.2 ∧ s.2 ≤ 1000) := ⟨hs.bx, hs.b_y⟩
  obtain ⟨heb, heb2⟩ : (-1000 ≤ e.1 ∧ e.1 ≤ 1000) ∧ (-1000 ≤ e.2 ∧ e.2 ≤ 1000) := ⟨he.bx, he.b_y⟩
  have hse : s.1 ≤ e.1 := by omega
  have hg := gtF_int hs.x he.x
  have hv := v_upr h0 h1 (by omega) (by omega)
  rw [hv.1, hv.2]
  clear hv
  have f1 := eqF_int hp.x hs.x
  have f2 := eqF_int hp.y hs.y
  have f3 := eqF_int hs.x he.x
  have f4 := gtF_int hs.y he.y
  have f5 := geF_int hs.y hp.y
  have f6 := geF_int hp.y he.y
  have f7 := gtF_int he.y hs.y
  have f8 := geF_int he.y hp.y
  have f9 := geF_int hp.y hs.y
  have g1 := eqF_int hp.x he.x
  have g2 := eqF_int hp.y he.y
  have g3 := ltF_int hp.x hs.x
  have g4 := gtF_int hp.x he.x
  have g5 := gtF_int hp.y hs.y
  have g6 := ltF_int hp.y he.y
  have g7 := gtF_int hp.y he.y
  have g8 := ltF_int hp.y hs.y
  first | rw [decide_eq_true (by omega)] at f1 | rw [decide_eq_false (by omega)] at f1 | clear f1
  first | rw [decide_eq_true (by omega)] at f2 | rw [decide_eq_false (by omega)] at f2 | clear f2
  first | rw [decide_eq_true (by omega)] at f3 | rw [decide_eq_false (by omega)] at f3 | clear f3
  first | rw [decide_eq_true (by omega)] at f4 | rw [decide_eq_false (by omega)] at f4 | clear f4
  first | rw [decide_eq_true (by omega)] at f5 | rw [decide_eq_false (by omega)] at f5 | clear f5
  first | rw [decide_eq_true (by omega)] at f6 | rw [decide_eq_false (by omega)] at f6 | clear f6
  first | rw [decide_eq_true (by omega)] at f7 | rw [decide_eq_false (by omega)] at f7 | clear f7
  first | rw [decide_eq_true (by omega)] at f8 | rw [decide_eq_false (by omega)] at f8 | clear f8
  first | rw [decide_eq_true (by omega)] at f9 | rw [decide_eq_false (by omega)] at f9 | clear f9
  first | rw [decide_eq_true (by omega)] at g1 | rw [decide_eq_false (by omega)] at g1 | clear g1
  first | rw [decide_eq_true (by omega)] at g2 | rw [decide_eq_false (by omega)] at g2 | clear g2
  first | rw [decide_eq_true (by omega)] at g3 | rw [decide_eq_false (by omega)] at g3 | clear g3
  first | rw [decide_eq_true (by omega)] at g4 | rw [decide_eq_false (by omega)] at g4 | clear g4
  first | rw [decide_eq_true (by omega)] at g5 | rw [decide_eq_false (by omega)] at g5 | clear g5
  first | rw [decide_eq_true (by omega)] at g6 | rw [decide_eq_false (by omega)] at g6 | clear g6
  first | rw [decide_eq_true (by omega)] at g7 | rw [decide_eq_false (by omega)] at g7 | clear g7
  first | rw [decide_eq_true (by omega)] at g8 | rw [decide_eq_false (by omega)] at g8 | clear g8
  first | rw [decide_eq_true (by omega)] at hg | rw [decide_eq_false (by omega)] at hg
  clear hs he hp hsb heb hpb hsb2 heb2 hpb2 hse
  skip
  go_enter Tryz.func38, Tryz.ntmps38
  go_wp2_with fail
  go_ret2
  exact Ret.mk rfl (by repeat (first | (with_reducible exact Kp.refl _) | (with_reducible assumption) | (with_reducible apply Kp.ext) | (with_reducible apply Kp.alloc) | (with_reducible apply Kp.drew) | (with_reducible apply Kp.drewN) | (with_reducible refine Kp.setCell ?_ (by first | (dsimp only; omega) | (simp; omega) | (simp; done) | (simp [size_ext_eq]; omega)) _)))
set_option maxRecDepth 100000 in
set_option maxHeartbeats 1000000 in
theorem rayN_l6a {px py sx sy ex ey : Nat} {p s e : Int × Int} (hp : PtW px py p) (hs : PtW sx sy s) (he : PtW ex ey e) (h0 : s.1 = e.1) (h1 : p.1 = s.1) (h2 : e.2 < s.2) (h3 : s.2 < p.2) (w : World) :
    Calls Tryz.prog 38 #[.agg #[.float .f64 px, .float .f64 py], .agg #[.float .f64 sx, .float .f64 sy], .agg #[.float .f64 ex, .float .f64 ey]] w (Ret w (.tuple #[.bool (upB s e p), .bool (onSegI s e p)])) := by
  obtain ⟨hpb, hpb2⟩ : (-1000 ≤ p.1 ∧ p.1 ≤ 1000) ∧ (-1000 ≤ p.2 ∧ p.2 ≤ 1000) := ⟨hp.bx, hp.b_y⟩
  obtain ⟨hsb, hsb2⟩ : (-1000 ≤ s.1 ∧ s.1 ≤ 1000) ∧ (-1000 ≤ s.2 ∧ s.2 ≤ 1000) := ⟨hs.bx, hs.b_y⟩
  obtain ⟨heb, heb2⟩ : (-1000 ≤ e.1 ∧ e.1 ≤ 1000) ∧ (-1000 ≤ e.2 ∧ e.2 ≤ 1000) := ⟨he.bx, he.b_y⟩
  have hse : s.1 ≤ e.1 := by omega
  have hg := gtF_int hs.x he.x
  have hv := v_upr_no h0 h1 (by omega)
  rw [hv.1, hv.2]
  clear hv
  have f1 := eqF_int hp.x hs.x
  have f2 := eqF_int hp.y hs.y
  have f3 := eqF_int hs.x he.x
  have f4 := gtF_int hs.y he.y
  have f5 := geF_int hs.y hp.y
  have f6 := geF_int hp.y he.y
  have f7 := gtF_int he.y hs.y
  have f8 := geF_int he.y hp.y
  have f9 := geF_int hp.y hs.y
  have g1 := eqF_int hp.x he.x
  have g2 := eqF_int hp.y he.y
  have g3 := ltF_int hp.x hs.x
  have g4 := gtF_int hp.x he.x
  have g5 := gtF_int hp.y hs.y
  have g6 := ltF_int hp.y he.y
  have g7 := gtF_int hp.y he.y
  have g8 := ltF_int hp.y hs.y
  obtain ⟨δ, δ0, δ1, hq⟩ := next_more (n := p.1) (by omega) (by omega)
  rw [← hp.fx] at hq
  have nx := Lib.hid (fun w => nextafter_c p.1 (by omega) (by omega) w)
  have hpx := hp.fx
  rw [← hpx] at nx
  clear hpx
  obtain ⟨n1, _⟩ := next_lt hq hs.x δ0 δ1
  obtain ⟨_, n2⟩ := next_lt hq he.x δ0 δ1
  clear hq
  first | rw [decide_eq_true (by omega)] at f1 | rw [decide_eq_false (by omega)] at f1 | clear f1
  first | rw [decide_eq_true (by omega)] at f2 | rw [decide_eq_false (by omega)] at f2 | clear f2
  first | rw [decide_eq_true (by omega)] at f3 | rw [decide_eq_false (by omega)] at f3 | clear f3
  first | rw [decide_eq_true (by omega)] at f4 | rw [decide_eq_false (by omega)] at f4 | clear f4
  first | rw [decide_eq_true (by omega)] at f5 | rw [decide_eq_false (by omega)] at f5 | clear f5
  first | rw [decide_eq_true (by omega)] at f6 | rw [decide_eq_false (by omega)] at f6 | clear f6
  first | rw [decide_eq_true (by omega)] at f7 | rw [decide_eq_false (by omega)] at f7 | clear f7
  first | rw [decide_eq_true (by omega)] at f8 | rw [decide_eq_false (by omega)] at f8 | clear f8
  first | rw [decide_eq_true (by omega)] at f9 | rw [decide_eq_false (by omega)] at f9 | clear f9
  first | rw [decide_eq_true (by omega)] at g1 | rw [decide_eq_false (by omega)] at g1 | clear g1
  first | rw [decide_eq_true (by omega)] at g2 | rw [decide_eq_false (by omega)] at g2 | clear g2
  first | rw [decide_eq_true (by omega)] at g3 | rw [decide_eq_false (by omega)] at g3 | clear g3
  first | rw [decide_eq_true (by omega)] at g4 | rw [decide_eq_false (by omega)] at g4 | clear g4
  first | rw [decide_eq_true (by omega)] at g5 | rw [decide_eq_false (by omega)] at g5 | clear g5
  first | rw [decide_eq_true (by omega)] at g6 | rw [decide_eq_false (by omega)] at g6 | clear g6
  first | rw [decide_eq_true (by omega)] at g7 | rw [decide_eq_false (by omega)] at g7 | clear g7
  first | rw [decide_eq_true (by omega)] at g8 | rw [decide_eq_false (by omega)] at g8 | clear g8
  first | rw [decide_eq_true (by omega)] at n1 | rw [decide_eq_false (by omega)] at n1 | clear n1
  first | rw [decide_eq_true (by omega)] at n2 | rw [decide_eq_false (by omega)] at n2 | clear n2
  first | rw [decide_eq_true (by omega)] at hg | rw [decide_eq_false (by omega)] at hg
  clear hs he hp hsb heb hpb hsb2 heb2 hpb2 hse
  skip
  go_enter Tryz.func38, Tryz.ntmps38
  go_wp2_with fail
  first | (with_reducible refine wp_region_ext_tail2 5 ?_ ?_ ?_) | refine wp_region_ext_tail 5 ?_ ?_ ?_
  kernel_rfl
  kernel_rfl
  simp only [List.take_succ_cons, List.take_zero, List.drop_succ_cons, List.drop_zero]
  repeat (go_big_quiet_step (first | (go_at_call 53; with_reducible exact Ret.quiet (inf_c _)) | (go_at_call 52; with_reducible exact Ret.quiet (nx.out _))))
  refine wpQuiet_nil ?_
  rintro _ ⟨u, rfl⟩
  go_wp2_with fail
  go_ret2
  exact Ret.mk rfl (by repeat (first | (with_reducible exact Kp.refl _) | (with_reducible assumption) | (with_reducible apply Kp.ext) | (with_reducible apply Kp.alloc) | (with_reducible apply Kp.drew) | (with_reducible apply Kp.drewN) | (with_reducible refine Kp.setCell ?_ (by first | (dsimp only; omega) | (simp; omega) | (simp; done) | (simp [size_ext_eq]; omega)) _)))
set_option maxRecDepth 100000 in
set_option maxHeartbeats 1000000 in
theorem rayN_l6b {px py sx sy ex ey : Nat} {p s e : Int × Int} (hp : PtW px py p) (hs : PtW sx sy s) (he : PtW ex ey e) (h0 : s.1 = e.1) (h1 : p.1 = s.1) (h2 : e.2 < s.2) (h3 : p.2 < e.2) (w : World) :
    Calls Tryz.prog 38 #[.agg #[.float .f64 px, .float .f64 py], .agg #[.float .f64 sx, .float .f64 sy], .agg #[.float .f64 ex, .float .f64 ey]] w (Ret w (.tuple #[.bool (upB s e p), .bool (onSegI s e p)])) := by
  obtain ⟨hpb, hpb2⟩ : (-1000 ≤ p.1 ∧ p.1 ≤ 1000) ∧ (-1000 ≤ p.2 ∧ p.2 ≤ 1000) := ⟨hp.bx, hp.b_y⟩
  obtain ⟨hsb, hsb2⟩ : (-1000 ≤ s.1 ∧ s.1 ≤ 1000) ∧ (-1000 ≤ s.2 ∧ s.2 ≤ 1000) := ⟨hs.bx, hs.b_y⟩
  obtain ⟨heb, heb2⟩ : (-1000 ≤ e.1 ∧ e.1 ≤ 1000) ∧ (-1000 ≤ e.2 ∧ e.2 ≤ 1000) := ⟨he.bx, he.b_y⟩
  have hse : s.1 ≤ e.1 := by omega
  have hg := gtF_int hs.x he.x
  have hv := v_upr_no h0 h1 (by omega)
  rw [hv.1, hv.2]
  clear hv
  have f1 := eqF_int hp.x hs.x
  have f2 := eqF_int hp.y hs.y
  have f3 := eqF_int hs.x he.x
  have f4 := gtF_int hs.y he.y
  have f5 := geF_int hs.y hp.y
  have f6 := geF_int hp.y he.y
  have f7 := gtF_int he.y hs.y
  have f8 := geF_int he.y hp.y
  have f9 := geF_int hp.y hs.y
  have g1 := eqF_int hp.x he.x
  have g2 := eqF_int hp.y he.y
  have g3 := ltF_int hp.x hs.x
  have g4 := gtF_int hp.x he.x
  have g5 := gtF_int hp.y hs.y
  have g6 := ltF_int hp.y he.y
  have g7 := gtF_int hp.y he.y
  have g8 := ltF_int hp.y hs.y
  obtain ⟨δ, δ0, δ1, hq⟩ := next_more (n := p.1) (by omega) (by omega)
  rw [← hp.fx] at hq
  have nx := Lib.hid (fun w => nextafter_c p.1 (by omega) (by omega) w)
  have hpx := hp.fx
  rw [← hpx] at nx
  clear hpx
  obtain ⟨n1, _⟩ := next_lt hq hs.x δ0 δ1
  obtain ⟨_, n2⟩ := next_lt hq he.x δ0 δ1
  clear hq
  first | rw [decide_eq_true (by omega)] at f1 | rw [decide_eq_false (by omega)] at f1 | clear f1
  first | rw [decide_eq_true (by omega)] at f2 | rw [decide_eq_false (by omega)] at f2 | clear f2
  first | rw [decide_eq_true (by omega)] at f3 | rw [decide_eq_false (by omega)] at f3 | clear f3
  first | rw [decide_eq_true (by omega)] at f4 | rw [decide_eq_false (by omega)] at f4 | clear f4
  first | rw [decide_eq_true (by omega)] at f5 | rw [decide_eq_false (by omega)] at f5 | clear f5
  first | rw [decide_eq_true (by omega)] at f6 | rw [decide_eq_false (by omega)] at f6 | clear f6
  first | rw [decide_eq_true (by omega)] at f7 | rw [decide_eq_false (by omega)] at f7 | clear f7
  first | rw [decide_eq_true (by omega)] at f8 | rw [decide_eq_false (by omega)] at f8 | clear f8
  first | rw [decide_eq_true (by omega)] at f9 | rw [decide_eq_false (by omega)] at f9 | clear f9
  first | rw [decide_eq_true (by omega)] at g1 | rw [decide_eq_false (by omega)] at g1 | clear g1
  first | rw [decide_eq_true (by omega)] at g2 | rw [decide_eq_false (by omega)] at g2 | clear g2
  first | rw [decide_eq_true (by omega)] at g3 | rw [decide_eq_false (by omega)] at g3 | clear g3
  first | rw [decide_eq_true (by omega)] at g4 | rw [decide_eq_false (by omega)] at g4 | clear g4
  first | rw [decide_eq_true (by omega)] at g5 | rw [decide_eq_false (by omega)] at g5 | clear g5
  first | rw [decide_eq_true (by omega)] at g6 | rw [decide_eq_false (by omega)] at g6 | clear g6
  first | rw [decide_eq_true (by omega)] at g7 | rw [decide_eq_false (by omega)] at g7 | clear g7
  first | rw [decide_eq_true (by omega)] at g8 | rw [decide_eq_false (by omega)] at g8 | clear g8
  first | rw [decide_eq_true (by omega)] at n1 | rw [decide_eq_false (by omega)] at n1 | clear n1
  first | rw [decide_eq_true (by omega)] at n2 | rw [decide_eq_false (by omega)] at n2 | clear n2
  first | rw [decide_eq_true (by omega)] at hg | rw [decide_eq_false (by omega)] at hg
  clear hs he hp hsb heb hpb hsb2 heb2 hpb2 hse
  skip
  go_enter Tryz.func38, Tryz.ntmps38
  go_wp2_with fail
  first | (with_reducible refine wp_region_ext_tail2 5 ?_ ?_ ?_) | refine wp_region_ext_tail 5 ?_ ?_ ?_
  kernel_rfl
  kernel_rfl
  simp only [List.take_succ_cons, List.take_zero, List.drop_succ_cons, List.drop_zero]
  repeat (go_big_quiet_step (first | (go_at_call 53; with_reducible exact Ret.quiet (inf_c _)) | (go_at_call 52; with_reducible exact Ret.quiet (nx.out _))))
  refine wpQuiet_nil ?_
  rintro _ ⟨u, rfl⟩
  go_wp2_with fail
  go_ret2
  exact Ret.mk rfl (by repeat (first | (with_reducible exact Kp.refl _) | (with_reducible assumption) | (with_reducible apply Kp.ext) | (with_reducible apply Kp.alloc) | (with_reducible apply Kp.drew) | (with_reducible apply Kp.drewN) | (with_reducible refine Kp.setCell ?_ (by first | (dsimp only; omega) | (simp; omega) | (simp; done) | (simp [size_ext_eq]; omega)) _)))
set_option maxRecDepth 100000 in
set_option maxHeartbeats 1000000 in
theorem rayN_l6c {px py sx sy ex ey : Nat} {p s e : Int × Int} (hp : PtW px py p) (hs : PtW sx sy s) (he : PtW ex ey e) (h0 : s.1 = e.1) (h1 : p.1 = s.1) (h2 : s.2 < e.2) (h3 : e.2 < p.2) (w : World) :
    Calls Tryz.prog 38 #[.agg #[.float .f64 px, .float .f64 py], .agg #[.float .f64 sx, .float .f64 sy], .agg #[.float .f64 ex, .float .f64 ey]] w (Ret w (.tuple #[.bool (upB s e p), .bool (onSegI s e p)])) := by
  obtain ⟨hpb, hpb2⟩ : (-1000 ≤ p.1 ∧ p.1 ≤ 1000) ∧ (-1000 ≤ p.2 ∧ p.2 ≤ 1000) := ⟨hp.bx, hp.b_y⟩
  obtain ⟨hsb, hsb2⟩ : (-1000 ≤ s.1 ∧ s.1 ≤ 1000) ∧ (-1000 ≤ s.2 ∧ s.2 ≤ 1000) := ⟨hs.bx, hs.b_y⟩
  obtain ⟨heb, heb2⟩ : (-1000 ≤ e.1 ∧ e.1 ≤ 1000) ∧ (-1000 ≤ e.2 ∧ e.2 ≤ 1000) := ⟨he.bx, he.b_y⟩
  have hse : s.1 ≤ e.1 := by omega
  have hg := gtF_int hs.x he.x
  have hv := v_upr_no h0 h1 (by omega)
  rw [hv.1, hv.2]
  clear hv
  have f1 := eqF_int hp.x hs.x
  have f2 := eqF_int hp.y hs.y
  have f3 := eqF_int hs.x he.x
  have f4 := gtF_int hs.y he.y
  have f5 := geF_int hs.y hp.y
  have f6 := geF_int hp.y he.y
  have f7 := gtF_int he.y hs.y
  have f8 := geF_int he.y hp.y
  have f9 := geF_int hp.y hs.y
  have g1 := eqF_int hp.x he.x
  have g2 := eqF_int hp.y he.y
  have g3 := ltF_int hp.x hs.x
  have g4 := gtF_int hp.x he.x
  have g5 := gtF_int hp.y hs.y
  have g6 := ltF_int hp.y he.y
  have g7 := gtF_int hp.y he.y
  have g8 := ltF_int hp.y hs.y
  obtain ⟨δ, δ0, δ1, hq⟩ := next_more (n := p.1) (by omega) (by omega)
  rw [← hp.fx] at hq
  have nx := Lib.hid (fun w => nextafter_c p.1 (by omega) (by omega) w)
  have hpx := hp.fx
  rw [← hpx] at nx
  clear hpx
  obtain ⟨n1, _⟩ := next_lt hq hs.x δ0 δ1
  obtain ⟨_, n2⟩ := next_lt hq he.x δ0 δ1
  clear hq
  first | rw [decide_eq_true (by omega)] at f1 | rw [decide_eq_false (by omega)] at f1 | clear f1
  first | rw [decide_eq_true (by omega)] at f2 | rw [decide_eq_false (by omega)] at f2 | clear f2
  first | rw [decide_eq_true (by omega)] at f3 | rw [decide_eq_false (by omega)] at f3 | clear f3
  first | rw [decide_eq_true (by omega)] at f4 | rw [decide_eq_false (by omega)] at f4 | clear f4
  first | rw [decide_eq_true (by omega)] at f5 | rw [decide_eq_false (by omega)] at f5 | clear f5
  first | rw [decide_eq_true (by omega)] at f6 | rw [decide_eq_false (by omega)] at f6 | clear f6
  first | rw [decide_eq_true (by omega)] at f7 | rw [decide_eq_false (by omega)] at f7 | clear f7
  first | rw [decide_eq_true (by omega)] at f8 | rw [decide_eq_false (by omega)] at f8 | clear f8
  first | rw [decide_eq_true (by omega)] at f9 | rw [decide_eq_false (by omega)] at f9 | clear f9
  first | rw [decide_eq_true (by omega)] at g1 | rw [decide_eq_false (by omega)] at g1 | clear g1
  first | rw [decide_eq_true (by omega)] at g2 | rw [decide_eq_false (by omega)] at g2 | clear g2
  first | rw [decide_eq_true (by omega)] at g3 | rw [decide_eq_false (by omega)] at g3 | clear g3
  first | rw [decide_eq_true (by omega)] at g4 | rw [decide_eq_false (by omega)] at g4 | clear g4
  first | rw [decide_eq_true (by omega)] at g5 | rw [decide_eq_false (by omega)] at g5 | clear g5
  first | rw [decide_eq_true (by omega)] at g6 | rw [decide_eq_false (by omega)] at g6 | clear g6
  first | rw [decide_eq_true (by omega)] at g7 | rw [decide_eq_false (by omega)] at g7 | clear g7
  first | rw [decide_eq_true (by omega)] at g8 | rw [decide_eq_false (by omega)] at g8 | clear g8
  first | rw [decide_eq_true (by omega)] at n1 | rw [decide_eq_false (by omega)] at n1 | clear n1
  first | rw [decide_eq_true (by omega)] at n2 | rw [decide_eq_false (by omega)] at n2 | clear n2
  first | rw [decide_eq_true (by omega)] at hg | rw [decide_eq_false (by omega)] at hg
  clear hs he hp hsb heb hpb hsb2 heb2 hpb2 hse
  skip
  go_enter Tryz.func38, Tryz.ntmps38
  go_wp2_with fail
  first | (with_reducible refine wp_region_ext_tail2 5 ?_ ?_ ?_) | refine wp_region_ext_tail 5 ?_ ?_ ?_
  kernel_rfl
  kernel_rfl
  simp only [List.take_succ_cons, List.take_zero, List.drop_succ_cons, List.drop_zero]
  repeat (go_big_quiet_step (first | (go_at_call 53; with_reducible exact Ret.quiet (inf_c _)) | (go_at_call 52; with_reducible exact Ret.quiet (nx.out _))))
  refine wpQuiet_nil ?_
  rintro _ ⟨u, rfl⟩
  go_wp2_with fail
  go_ret2
  exact Ret.mk rfl (by repeat (first | (with_reducible exact Kp.refl _) | (with_reducible assumption) | (with_reducible apply Kp.ext) | (with_reducible apply Kp.alloc) | (with_reducible apply Kp.drew) | (with_reducible apply Kp.drewN) | (with_reducible refine Kp.setCell ?_ (by first | (dsimp only; omega) | (simp; omega) | (simp; done) | (simp [size_ext_eq]; omega)) _)))
set_option maxRecDepth 100000 in
set_option maxHeartbeats 1000000 in
theorem rayN_l6d {px py sx sy ex ey : Nat} {p s e : Int × Int} (hp : PtW px py p) (hs : PtW sx sy s) (he : PtW ex ey e) (h0 : s.1 = e.1) (h1 : p.1 = s.1) (h2 : s.2 < e.2) (h3 : p.2 < s.2) (w : World) :
    Calls Tryz.prog 38 #[.agg #[.float .f64 px, .float .f64 py], .agg #[.float .f64 sx, .float .f64 sy], .agg #[.float .f64 ex, .float .f64 ey]] w (Ret w (.tuple #[.bool (upB s e p), .bool (onSegI s e p)])) := by
  obtain ⟨hpb, hpb2⟩ : (-1000 ≤ p.1 ∧ p.1 ≤ 1000) ∧ (-1000 ≤ p.2 ∧ p.2 ≤ 1000) := ⟨hp.bx, hp.b_y⟩
  obtain ⟨hsb, hsb2⟩ : (-1000 ≤ s.1 ∧ s.1 ≤ 1000) ∧ (-1000 ≤ s.2 ∧ s.2 ≤ 1000) := ⟨hs.bx, hs.b_y⟩
  obtain ⟨heb, heb2⟩ : (-1000 ≤ e.1 ∧ e.1 ≤ 1000) ∧ (-1000 ≤ e.2 ∧ e.2 ≤ 1000) := ⟨he.bx, he.b_y⟩
  have hse : s.1 ≤ e.1 := by omega
  have hg := gtF_int hs.x he.x
  have hv := v_upr_no h0 h1 (by omega)
  rw [hv.1, hv.2]
  clear hv
  have f1 := eqF_int hp.x hs.x
  have f2 := eqF_int hp.y hs.y
  have f3 := eqF_int hs.x he.x
  have f4 := gtF_int hs.y he.y
  have f5 := geF_int hs.y hp.y
  have f6 := geF_int hp.y he.y
  have f7 := gtF_int he.y hs.y
  have f8 := geF_int he.y hp.y
  have f9 := geF_int hp.y hs.y
  have g1 := eqF_int hp.x he.x
  have g2 := eqF_int hp.y he.y
  have g3 := ltF_int hp.x hs.x
  have g4 := gtF_int hp.x he.x
  have g5 := gtF_int hp.y hs.y
  have g6 := ltF_int hp.y he.y
  have g7 := gtF_int hp.y he.y
  have g8 := ltF_int hp.y hs.y
  obtain ⟨δ, δ0, δ1, hq⟩ := next_more (n := p.1) (by omega) (by omega)
  rw [← hp.fx] at hq
  have nx := Lib.hid (fun w => nextafter_c p.1 (by omega) (by omega) w)
  have hpx := hp.fx
  rw [← hpx] at nx
  clear hpx
  obtain ⟨n1, _⟩ := next_lt hq hs.x δ0 δ1
  obtain ⟨_, n2⟩ := next_lt hq he.x δ0 δ1
  clear hq
  first | rw [decide_eq_true (by omega)] at f1 | rw [decide_eq_false (by omega)] at f1 | clear f1
  first | rw [decide_eq_true (by omega)] at f2 | rw [decide_eq_false (by omega)] at f2 | clear f2
  first | rw [decide_eq_true (by omega)] at f3 | rw [decide_eq_false (by omega)] at f3 | clear f3
  first | rw [decide_eq_true (by omega)] at f4 | rw [decide_eq_false (by omega)] at f4 | clear f4
  first | rw [decide_eq_true (by omega)] at f5 | rw [decide_eq_false (by omega)] at f5 | clear f5
  first | rw [decide_eq_true (by omega)] at f6 | rw [decide_eq_false (by omega)] at f6 | clear f6
  first | rw [decide_eq_true (by omega)] at f7 | rw [decide_eq_false (by omega)] at f7 | clear f7
  first | rw [decide_eq_true (by omega)] at f8 | rw [decide_eq_false (by omega)] at f8 | clear f8
  first | rw [decide_eq_true (by omega)] at f9 | rw [decide_eq_false (by omega)] at f9 | clear f9
  first | rw [decide_eq_true (by omega)] at g1 | rw [decide_eq_false (by omega)] at g1 | clear g1
  first | rw [decide_eq_true (by omega)] at g2 | rw [decide_eq_false (by omega)] at g2 | clear g2
  first | rw [decide_eq_true (by omega)] at g3 | rw [decide_eq_false (by omega)] at g3 | clear g3
  first | rw [decide_eq_true (by omega)] at g4 | rw [decide_eq_false (by omega)] at g4 | clear g4
  first | rw [decide_eq_true (by omega)] at g5 | rw [decide_eq_false (by omega)] at g5 | clear g5
  first | rw [decide_eq_true (by omega)] at g6 | rw [decide_eq_false (by omega)] at g6 | clear g6
  first | rw [decide_eq_true (by omega)] at g7 | rw [decide_eq_false (by omega)] at g7 | clear g7
  first | rw [decide_eq_true (by omega)] at g8 | rw [decide_eq_false (by omega)] at g8 | clear g8
  first | rw [decide_eq_true (by omega)] at n1 | rw [decide_eq_false (by omega)] at n1 | clear n1
  first | rw [decide_eq_true (by omega)] at n2 | rw [decide_eq_false (by omega)] at n2 | clear n2
  first | rw [decide_eq_true (by omega)] at hg | rw [decide_eq_false (by omega)] at hg
  clear hs he hp hsb heb hpb hsb2 heb2 hpb2 hse
  skip
  go_enter Tryz.func38, Tryz.ntmps38
  go_wp2_with fail
  first | (with_reducible refine wp_region_ext_tail2 5 ?_ ?_ ?_) | refine wp_region_ext_tail 5 ?_ ?_ ?_
  kernel_rfl
  kernel_rfl
  simp only [List.take_succ_cons, List.take_zero, List.drop_succ_cons, List.drop_zero]
  repeat (go_big_quiet_step (first | (go_at_call 53; with_reducible exact Ret.quiet (inf_c _)) | (go_at_call 52; with_reducible exact Ret.quiet (nx.out _))))
  refine wpQuiet_nil ?_
  rintro _ ⟨u, rfl⟩
  go_wp2_with fail
  go_ret2
  exact Ret.mk rfl (by repeat (first | (with_reducible exact Kp.refl _) | (with_reducible assumption) | (with_reducible apply Kp.ext) | (with_reducible apply Kp.alloc) | (with_reducible apply Kp.drew) | (with_reducible apply Kp.drewN) | (with_reducible refine Kp.setCell ?_ (by first | (dsimp only; omega) | (simp; omega) | (simp; done) | (simp [size_ext_eq]; omega)) _)))
set_option maxRecDepth 100000 in
set_option maxHeartbeats 1000000 in
theorem rayN_l6e {px py sx sy ex ey : Nat} {p s e : Int × Int} (hp : PtW px py p) (hs : PtW sx sy s) (he : PtW ex ey e) (h0 : s.1 = e.1) (h1 : p.1 = s.1) (h2 : s.2 = e.2) (h3 : p.2 ≠ s.2) (w : World) :
    Calls Tryz.prog 38 #[.agg #[.float .f64 px, .float .f64 py], .agg #[.float .f64 sx, .float .f64 sy], .agg #[.float .f64 ex, .float .f64 ey]] w (Ret w (.tuple #[.bool (upB s e p), .bool (onSegI s e p)])) := by
  obtain ⟨hpb, hpb2⟩ : (-1000 ≤ p.1 ∧ p.1 ≤ 1000) ∧ (-1000 ≤ p.2 ∧ p.2 ≤ 1000) := ⟨hp.bx, hp.b_y⟩
  obtain ⟨hsb, hsb2⟩ : (-1000 ≤ s.1 ∧ s.1 ≤ 1000) ∧ (-1000 ≤ s.2 ∧ s.2 ≤ 1000) := ⟨hs.bx, hs.b_y⟩
  obtain ⟨heb, heb2⟩ : (-1000 ≤ e.1 ∧ e.1 ≤ 1000) ∧ (-1000 ≤ e.2 ∧ e.2 ≤ 1000) := ⟨he.bx, he.b_y⟩
  have hse : s.1 ≤ e.1 := by omega
  have hg := gtF_int hs.x he.x
  have hv := v_upr_no h0 h1 (by omega)
  rw [hv.1, hv.2]
  clear hv
  have f1 := eqF_int hp.x hs.x
  have f2 := eqF_int hp.y hs.y
  have f3 := eqF_int hs.x he.x
  have f4 := gtF_int hs.y he.y
  have f5 := geF_int hs.y hp.y
  have f6 := geF_int hp.y he.y
  have f7 := gtF_int he.y hs.y
  have f8 := geF_int he.y hp.y
  have f9 := geF_int hp.y hs.y
  have g1 := eqF_int hp.x he.x
  have g2 := eqF_int hp.y he.y
  have g3 := ltF_int hp.x hs.x
  have g4 := gtF_int hp.x he.x
  have g5 := gtF_int hp.y hs.y
  have g6 := ltF_int hp.y he.y
  have g7 := gtF_int hp.y he.y
  have g8 := ltF_int hp.y hs.y
  obtain ⟨δ, δ0, δ1, hq⟩ := next_more (n := p.1) (by omega) (by omega)
  rw [← hp.fx] at hq
  have nx := Lib.hid (fun w => nextafter_c p.1 (by omega) (by omega) w)
  have hpx := hp.fx
  rw [← hpx] at nx
  clear hpx
  obtain ⟨n1, _⟩ := next_lt hq hs.x δ0 δ1
  obtain ⟨_, n2⟩ := next_lt hq he.x δ0 δ1
  clear hq
  first | rw [decide_eq_true (by omega)] at f1 | rw [decide_eq_false (by omega)] at f1 | clear f1
  first | rw [decide_eq_true (by omega)] at f2 | rw [decide_eq_false (by omega)] at f2 | clear f2
  first | rw [decide_eq_true (by omega)] at f3 | rw [decide_eq_false (by omega)] at f3 | clear f3
  first | rw [decide_eq_true (by omega)] at f4 | rw [decide_eq_false (by omega)] at f4 | clear f4
  first | rw [decide_eq_true (by omega)] at f5 | rw [decide_eq_false (by omega)] at f5 | clear f5
  first | rw [decide_eq_true (by omega)] at f6 | rw [decide_eq_false (by omega)] at f6 | clear f6
  first | rw [decide_eq_true (by omega)] at f7 | rw [decide_eq_false (by omega)] at f7 | clear f7
  first | rw [decide_eq_true (by omega)] at f8 | rw [decide_eq_false (by omega)] at f8 | clear f8
  first | rw [decide_eq_true (by omega)] at f9 | rw [decide_eq_false (by omega)] at f9 | clear f9
  first | rw [decide_eq_true (by omega)] at g1 | rw [decide_eq_false (by omega)] at g1 | clear g1
  first | rw [decide_eq_true (by omega)] at g2 | rw [decide_eq_false (by omega)] at g2 | clear g2
  first | rw [decide_eq_true (by omega)] at g3 | rw [decide_eq_false (by omega)] at g3 | clear g3
  first | rw [decide_eq_true (by omega)] at g4 | rw [decide_eq_false (by omega)] at g4 | clear g4
  first | rw [decide_eq_true (by omega)] at g5 | rw [decide_eq_false (by omega)] at g5 | clear g5
  first | rw [decide_eq_true (by omega)] at g6 | rw [decide_eq_false (by omega)] at g6 | clear g6
  first | rw [decide_eq_true (by omega)] at g7 | rw [decide_eq_false (by omega)] at g7 | clear g7
  first | rw [decide_eq_true (by omega)] at g8 | rw [decide_eq_false (by omega)] at g8 | clear g8
  first | rw [decide_eq_true (by omega)] at n1 | rw [decide_eq_false (by omega)] at n1 | clear n1
  first | rw [decide_eq_true (by omega)] at n2 | rw [decide_eq_false (by omega)] at n2 | clear n2
  first | rw [decide_eq_true (by omega)] at hg | rw [decide_eq_false (by omega)] at hg
  clear hs he hp hsb heb hpb hsb2 heb2 hpb2 hse
  skip
  go_enter Tryz.func38, Tryz.ntmps38
  go_wp2_with fail
  first | (with_reducible refine wp_region_ext_tail2 5 ?_ ?_ ?_) | refine wp_region_ext_tail 5 ?_ ?_ ?_
  kernel_rfl
  kernel_rfl
  simp only [List.take_succ_cons, List.take_zero, List.drop_succ_cons, List.drop_zero]
  repeat (go_big_quiet_step (first | (go_at_call 53; with_reducible exact Ret.quiet (inf_c _)) | (go_at_call 52; with_reducible exact Ret.quiet (nx.out _))))
  refine wpQuiet_nil ?_
  rintro _ ⟨u, rfl⟩
  go_wp2_with fail
  go_ret2
  exact Ret.mk rfl (by repeat (first | (with_reducible exact Kp.refl _) | (with_reducible assumption) | (with_reducible apply Kp.ext) | (with_reducible apply Kp.alloc) | (with_reducible apply Kp.drew) | (with_reducible apply Kp.drewN) | (with_reducible refine Kp.setCell ?_ (by first | (dsimp only; omega) | (simp; omega) | (simp; done) | (simp [size_ext_eq]; omega)) _)))
theorem rayN {px py sx sy ex ey : Nat} {p s e : Int × Int} (hp : PtW px py p) (hs : PtW sx sy s) (he : PtW ex ey e) (h0 : s.1 ≤ e.1) (w : World) :
    Calls Tryz.prog 38 #[.agg #[.float .f64 px, .float .f64 py], .agg #[.float .f64 sx, .float .f64 sy], .agg #[.float .f64 ex, .float .f64 ey]] w (Ret w (.tuple #[.bool (upB s e p), .bool (onSegI s e p)])) := by
  by_cases a1 : p.1 < s.1
  · exact rayN_l1 hp hs he h0 a1 w
  by_cases a2 : e.1 < p.1
  · exact rayN_l2 hp hs he h0 a2 w
  by_cases a3 : p.1 = s.1
  · by_cases a4 : p.2 = s.2
    · exact rayN_l3 hp hs he h0 a3 a4 w
    by_cases a5 : s.1 = e.1
    · by_cases a6 : e.2 < s.2
      · by_cases a7 : s.2 < p.2
        · exact rayN_l6a hp hs he a5 a3 a6 a7 w
        by_cases a8 : p.2 < e.2
        · exact rayN_l6b hp hs he a5 a3 a6 a8 w
        exact rayN_l4 hp hs he a5 a3 a4 a6 (by omega) (by omega) w
      by_cases a6' : s.2 < e.2
      · by_cases a7 : e.2 < p.2
        · exact rayN_l6c hp hs he a5 a3 a6' a7 w
        by_cases a8 : p.2 < s.2
        · exact rayN_l6d hp hs he a5 a3 a6' a8 w
        exact rayN_l5 hp hs he a5 a3 a4 a6' (by omega) (by omega) w
      exact rayN_l6e hp hs he a5 a3 (by omega) a4 w
    have a5' : s.1 < e.1 := by omega
    by_cases a6 : e.2 < s.2
    · by_cases a7 : s.2 < p.2
      · exact rayN_l7a hp hs he a5' a3 a6 a7 w
      by_cases a8 : p.2 < e.2
      · exact rayN_l7b hp hs he a5' a3 a6 a8 w
      exact rayN_l7c hp hs he a5' a3 a6 (by omega) (by omega) w
    · by_cases a7 : e.2 < p.2
      · exact rayN_l7d hp hs he a5' a3 (by omega) a7 w
      by_cases a8 : p.2 < s.2
      · exact rayN_l7e hp hs he a5' a3 (by omega) a8 w
      exact rayN_l7f hp hs he a5' a3 (by omega) (by omega) (by omega) w
  by_cases b1 : p.1 = e.1
  · by_cases b2 : p.2 = e.2
    · exact rayN_l8 hp hs he (by omega) b1 b2 w
    exact rayN_l9 hp hs he (by omega) b1 b2 w
  have a5' : s.1 < p.1 := by omega
  have a5'' : p.1 < e.1 := by omega
  by_cases a6 : e.2 < s.2
  · by_cases a7 : s.2 < p.2
    · exact rayN_l10a hp hs he a5' a5'' a6 a7 w
    by_cases a8 : p.2 < e.2
    · exact rayN_l10b hp hs he a5' a5'' a6 a8 w
    rcases Int.lt_trichotomy ((p.2 - s.2) * (e.1 - s.1)) ((e.2 - s.2) * (p.1 - s.1)) with c | c | c
    · exact rayN_l10c0 hp hs he a5' a5'' a6 (by omega) (by omega) c w
    · exact rayN_l10c1 hp hs he a5' a5'' a6 (by omega) (by omega) c w
    · exact rayN_l10c2 hp hs he a5' a5'' a6 (by omega) (by omega) c w
  · by_cases a7 : e.2 < p.2
    · exact rayN_l10d hp hs he a5' a5'' (by omega) a7 w
    by_cases a8 : p.2 < s.2
    · exact rayN_l10e hp hs he a5' a5'' (by omega) a8 w
    rcases Int.lt_trichotomy ((p.2 - s.2) * (e.1 - s.1)) ((e.2 - s.2) * (p.1 - s.1)) with c | c | c
    · exact rayN_l10f0 hp hs he a5' a5'' (by omega) (by omega) (by omega) c w
    · exact rayN_l10f1 hp hs he a5' a5'' (by omega) (by omega) (by omega) c w
    · exact rayN_l10f2 hp hs he a5' a5'' (by omega) (by omega) (by omega) c w
end Go.Proofs.YtohidpmkoehmcaaGreatDoor
