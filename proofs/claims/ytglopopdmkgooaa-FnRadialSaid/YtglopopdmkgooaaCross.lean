/-
  spec.Cross on whole numbers.
-/
import Derived.Test.YtglopopdmkgooaaDist
namespace Go.Proofs.Ytglopopdmkgooaa
open PubFl Go.RowKit

attribute [local go_sem] cell_ext frozen_ext ext_setCell cell_store size_ext_eq lt_p0 lt_p1 lt_p2 lt_p3 lt_p4 lt_p5 lt_p6 lt_p7 lt_p8 lt_p9 lt_p10 lt_p11 lt_p12 lt_p13 lt_p14 lt_p15 lt_p16 lt_p17 lt_p18 lt_p19 lt_p20 lt_p21 lt_p22 lt_p23 lt_p24 lt_p25 lt_p26 lt_p27 lt_p28 lt_p29 lt_p30 lt_p31 lt_p32 lt_q1 lt_q2 lt_q3 lt_q4 lt_q5 lt_q6 lt_q7 lt_q8 lt_q9 lt_q10 lt_q11 lt_q12 lt_q13 lt_q14 lt_q15 lt_q16 lt_q17 lt_q18 lt_q19 lt_q20 lt_q21 lt_q22 lt_q23 lt_q24 lt_q25 lt_q26 lt_q27 lt_q28 lt_q29 lt_q30 lt_q31 lt_q32 run_fop run_store_float
attribute [local go_sem high] cmp_eql cmp_neq cmp_lss cmp_leq cmp_gtr cmp_geq

/-- twice the area of a triangle, as the program reckons it -/
def crossF (ax ay bx by' cx cy : Nat) : Nat := fop .sub (fop .mul (fop .sub bx ax) (fop .sub cy ay)) (fop .mul (fop .sub by' ay) (fop .sub cx ax))
structure CrossOk (ax ay bx by' cx cy : Nat) : Prop where
  o1 : FOk .sub bx ax
  o2 : FOk .sub cy ay
  o3 : FOk .mul (fop .sub bx ax) (fop .sub cy ay)
  o4 : FOk .sub by' ay
  o5 : FOk .sub cx ax
  o6 : FOk .mul (fop .sub by' ay) (fop .sub cx ax)
  o7 : FOk .sub (fop .mul (fop .sub bx ax) (fop .sub cy ay)) (fop .mul (fop .sub by' ay) (fop .sub cx ax))
def crossI (a b c d e f : Int) : Int := (c - a) * (f - b) - (d - b) * (e - a)

theorem cross_int {ax ay bx by' cx cy : Nat} {a b c d e f : Int} (h1 : IsV ax a) (h2 : IsV ay b) (h3 : IsV bx c) (h4 : IsV by' d) (h5 : IsV cx e) (h6 : IsV cy f)
    (b1 : -2000 ≤ a ∧ a ≤ 2000) (b2 : -2000 ≤ b ∧ b ≤ 2000) (b3 : -2000 ≤ c ∧ c ≤ 2000) (b4 : -2000 ≤ d ∧ d ≤ 2000) (b5 : -2000 ≤ e ∧ e ≤ 2000) (b6 : -2000 ≤ f ∧ f ≤ 2000) :
    CrossOk ax ay bx by' cx cy ∧ IsV (crossF ax ay bx by' cx cy) (crossI a b c d e f : Int) ∧ -32000000 ≤ crossI a b c d e f ∧ crossI a b c d e f ≤ 32000000 := by
  have q : ∀ x y : Int, (-4000 ≤ x ∧ x ≤ 4000) → (-4000 ≤ y ∧ y ≤ 4000) → -16000000 ≤ x * y ∧ x * y ≤ 16000000 := fun x y hx hy => by
    have h1 : (x * y).natAbs ≤ 4000 * 4000 := by rw [Int.natAbs_mul]; exact Nat.mul_le_mul (by omega) (by omega)
    omega
  have q1 := q (c - a) (f - b) (by omega) (by omega)
  have q2 := q (d - b) (e - a) (by omega) (by omega)
  obtain ⟨o1, v1⟩ := sub_int h3 h1 (by omega)
  obtain ⟨o2, v2⟩ := sub_int h6 h2 (by omega)
  obtain ⟨o3, v3⟩ := mul_int v1 v2 (by omega)
  obtain ⟨o4, v4⟩ := sub_int h4 h2 (by omega)
  obtain ⟨o5, v5⟩ := sub_int h5 h1 (by omega)
  obtain ⟨o6, v6⟩ := mul_int v4 v5 (by omega)
  obtain ⟨o7, v7⟩ := sub_int v3 v6 (by omega)
  unfold crossI
  exact ⟨⟨o1, o2, o3, o4, o5, o6, o7⟩, v7, by omega, by omega⟩

theorem cross_c (ax ay bx by' cx cy : Nat) (h : CrossOk ax ay bx by' cx cy) (w : World) :
    Calls Try.prog 15 #[.agg #[.float .f64 ax, .float .f64 ay], .agg #[.float .f64 bx, .float .f64 by'], .agg #[.float .f64 cx, .float .f64 cy]] w (Ret w (.float .f64 (crossF ax ay bx by' cx cy))) := by
  obtain ⟨o1, o2, o3, o4, o5, o6, o7⟩ := h
  go_enter Try.func15, Try.ntmps15
  go_wp2_with fail
  go_ret
  exact Ret.mk rfl (by repeat (first | (with_reducible exact Kp.refl _) | (with_reducible assumption) | (with_reducible apply Kp.ext) | (with_reducible apply Kp.alloc) | (with_reducible apply Kp.drew) | (with_reducible apply Kp.drewN) | (with_reducible refine Kp.setCell ?_ (by first | (dsimp only; omega) | (simp; omega) | (simp; done) | (simp [size_ext_eq]; omega)) _)))
end Go.Proofs.Ytglopopdmkgooaa
