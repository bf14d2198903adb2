/-
  impl.Closed; spec.square closed.
-/
import Derived.Test.YtdkadjjapmcadaaRev
import Derived.Test.YtdkadjjapmcadaaEq
namespace Go.Proofs.Ytdkadjjapmcadaa
open PubFl Go.RowKit

attribute [local go_sem] cell_ext frozen_ext ext_setCell cell_store size_ext_eq lt_p0 lt_p1 lt_p2 lt_p3 lt_p4 lt_p5 lt_p6 lt_p7 lt_p8 lt_p9 lt_p10 lt_p11 lt_p12 lt_p13 lt_p14 lt_p15 lt_p16 lt_p17 lt_p18 lt_p19 lt_p20 lt_p21 lt_p22 lt_p23 lt_p24 lt_p25 lt_p26 lt_p27 lt_p28 lt_p29 lt_p30 lt_p31 lt_p32 lt_q1 lt_q2 lt_q3 lt_q4 lt_q5 lt_q6 lt_q7 lt_q8 lt_q9 lt_q10 lt_q11 lt_q12 lt_q13 lt_q14 lt_q15 lt_q16 lt_q17 lt_q18 lt_q19 lt_q20 lt_q21 lt_q22 lt_q23 lt_q24 lt_q25 lt_q26 lt_q27 lt_q28 lt_q29 lt_q30 lt_q31 lt_q32 run_fop run_store_float
attribute [local go_sem high] cmp_eql cmp_neq cmp_lss cmp_leq cmp_gtr cmp_geq

/-- the last point is the first one -/
def meetsB (ps : List (Nat × Nat)) : Bool := eqF (ps.getD 0 (0, 0)).1 (ps.getD (ps.length - 1) (0, 0)).1 && eqF (ps.getD 0 (0, 0)).2 (ps.getD (ps.length - 1) (0, 0)).2
def closedB (ps : List (Nat × Nat)) : Bool := decide (4 ≤ ps.length) && meetsB ps

set_option maxHeartbeats 1000000 in
theorem ring_closed_c (a : Option Addr) (cap : Nat) (ps : List (Nat × Nat)) (hn : ps.length ≤ 2147483647) (w : World) (hs : PtsIn w a ps) :
    Calls Try.prog 45 #[.slice a ps.length cap] w (Ret w (.bool (closedB ps))) := by
  by_cases h4 : 4 ≤ ps.length
  · obtain ⟨b, off, rfl, hb, hpt⟩ := hs.cells (by omega)
    obtain ⟨l, hl⟩ : ∃ l : Nat, ps.length = l + 1 := ⟨ps.length - 1, by omega⟩
    obtain ⟨a0, a1⟩ := hpt 0 (by omega)
    obtain ⟨b0, b1⟩ := hpt l (by omega)
    have hr : closedB ps = (eqF (ps[0]'(by omega)).1 (ps[l]'(by omega)).1 && eqF (ps[0]'(by omega)).2 (ps[l]'(by omega)).2) := by
      unfold closedB meetsB
      rw [decide_eq_true h4, getD_in _ _ (by omega), getD_in _ _ (by omega)]
      simp only [hl, Nat.add_sub_cancel, Bool.true_and]
    obtain ⟨⟨x0, y0⟩, hq0⟩ : ∃ q, ps[0]'(by omega) = q := ⟨_, rfl⟩
    obtain ⟨⟨x1, y1⟩, hq1⟩ : ∃ q, ps[l]'(by omega) = q := ⟨_, rfl⟩
    rw [hq0] at a0 a1 hr
    rw [hq1] at b0 b1 hr
    simp only [Nat.zero_mul, Nat.add_zero] at a0 a1
    clear hq0 hq1 hpt hs
    rw [hr, hl]
    clear hr
    have h4' : (4 : Int) ≤ (l : Int) + 1 := by omega
    rw [hl] at hn
    clear hl h4
    have heq := run_eql_opt
    go_enter Try.func45, Try.ntmps45
    go_wp2_with fail
    first | (with_reducible refine wp_region_ext_lit2 ?_ ?_ ?_) | refine wp_region_ext_lit ?_ ?_ ?_
    kernel_rfl
    kernel_rfl
    repeat (go_big_quiet_step (fail))
    refine wpQuiet_nil ?_
    rintro _ ⟨u, rfl⟩
    go_wp2_with fail
    go_ret
    exact Ret.mk rfl (by repeat (first | (with_reducible exact Kp.refl _) | (with_reducible assumption) | (with_reducible apply Kp.ext) | (with_reducible apply Kp.alloc) | (with_reducible apply Kp.drew) | (with_reducible apply Kp.drewN) | (with_reducible refine Kp.setCell ?_ (by first | (dsimp only; omega) | (simp; omega) | (simp; done) | (simp [size_ext_eq]; omega)) _)))
  · have hr : closedB ps = false := by unfold closedB; rw [decide_eq_false h4]; rfl
    rw [hr]
    have h4' : ((4 : Int) ≤ (ps.length : Int)) = False := eq_false (by omega)
    clear h4 hr
    go_enter Try.func45, Try.ntmps45
    go_wp2_with fail
    first | (with_reducible refine wp_region_ext_lit2 ?_ ?_ ?_) | refine wp_region_ext_lit ?_ ?_ ?_
    kernel_rfl
    kernel_rfl
    repeat (go_big_quiet_step (fail))
    refine wpQuiet_nil ?_
    rintro _ ⟨u, rfl⟩
    go_wp2_with fail
    go_ret
    exact Ret.mk rfl (by repeat (first | (with_reducible exact Kp.refl _) | (with_reducible assumption) | (with_reducible apply Kp.ext) | (with_reducible apply Kp.alloc) | (with_reducible apply Kp.drew) | (with_reducible apply Kp.drewN) | (with_reducible refine Kp.setCell ?_ (by first | (dsimp only; omega) | (simp; omega) | (simp; done) | (simp [size_ext_eq]; omega)) _)))

theorem closed_c (a : Option Addr) (cap : Nat) (ps : List (Nat × Nat)) (hn : ps.length ≤ 2147483647) (w : World) (hs : PtsIn w a ps) :
    Calls Try.prog 14 #[.slice a ps.length cap] w (Ret w (.bool (closedB ps))) := by
  go_enter Try.func14, Try.ntmps14
  by_cases h0 : 0 < ps.length
  · go_wp2_with (go_at_call 44; refine (pointsOf_c _ _ _ hn _ hs).mono ?_; rintro e w1 ⟨v, u, rfl, hu, hp⟩)
    have hk1 : Kp w w1 := by rw [hu]; exact (by repeat (first | (with_reducible exact Kp.refl _) | (with_reducible assumption) | (with_reducible apply Kp.ext) | (with_reducible apply Kp.alloc) | (with_reducible apply Kp.drew) | (with_reducible apply Kp.drewN) | (with_reducible refine Kp.setCell ?_ (by first | (dsimp only; omega) | (simp; omega) | (simp; done) | (simp [size_ext_eq]; omega)) _)))
    rw [← hu]
    clear hu
    obtain ⟨g, cap', rfl, hg1, hg2, _, _, hpt⟩ := hp.form h0
    go_wp2_with (go_at_call 45; (first | (with_reducible refine (Ret.at_ext (ring_closed_c _ _ _ hn _ (.inr ⟨g, 0, rfl, hg2, hpt⟩))).mono ?_) | refine (ring_closed_c _ _ _ hn _ (.inr ⟨g, 0, rfl, hg2, hpt⟩)).mono ?_); rintro e w' ⟨rfl, u, rfl⟩)
    go_ret
    exact Ret.mk rfl (by repeat (first | (with_reducible exact Kp.refl _) | (with_reducible assumption) | (with_reducible apply Kp.ext) | (with_reducible apply Kp.alloc) | (with_reducible apply Kp.drew) | (with_reducible apply Kp.drewN) | (with_reducible refine Kp.setCell ?_ (by first | (dsimp only; omega) | (simp; omega) | (simp; done) | (simp [size_ext_eq]; omega)) _)))
  · obtain rfl : ps = [] := List.eq_nil_of_length_eq_zero (by omega)
    go_wp2_with (go_at_call 44; refine (pointsOf_c _ _ [] hn _ hs).mono ?_; rintro e w1 ⟨v, u, rfl, hu, hp⟩)
    have hk1 : Kp w w1 := by rw [hu]; exact (by repeat (first | (with_reducible exact Kp.refl _) | (with_reducible assumption) | (with_reducible apply Kp.ext) | (with_reducible apply Kp.alloc) | (with_reducible apply Kp.drew) | (with_reducible apply Kp.drewN) | (with_reducible refine Kp.setCell ?_ (by first | (dsimp only; omega) | (simp; omega) | (simp; done) | (simp [size_ext_eq]; omega)) _)))
    rw [← hu]
    clear hu
    obtain ⟨a', cap', rfl⟩ := hp.empty
    go_wp2_with (go_at_call 45; (first | (with_reducible refine (Ret.at_ext (ring_closed_c _ _ [] hn _ (.inl rfl))).mono ?_) | refine (ring_closed_c _ _ [] hn _ (.inl rfl)).mono ?_); rintro e w' ⟨rfl, u, rfl⟩)
    go_ret
    exact Ret.mk rfl (by repeat (first | (with_reducible exact Kp.refl _) | (with_reducible assumption) | (with_reducible apply Kp.ext) | (with_reducible apply Kp.alloc) | (with_reducible apply Kp.drew) | (with_reducible apply Kp.drewN) | (with_reducible refine Kp.setCell ?_ (by first | (dsimp only; omega) | (simp; omega) | (simp; done) | (simp [size_ext_eq]; omega)) _)))
end Go.Proofs.Ytdkadjjapmcadaa
