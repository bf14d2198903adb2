/-
  laws.FnBoxHas, walked: it answers true.
-/
import Derived.Test.YtnmokjgiilfdlaaGreatDoorBox
set_option linter.all false
namespace Go.Proofs.YtnmokjgiilfdlaaGreatDoor
open PubFl

attribute [local go_sem] cell_ext frozen_ext ext_setCell cell_store size_ext_eq lt_p0 lt_p1 lt_p2 lt_p3 lt_p4 lt_p5 lt_p6 lt_p7 lt_p8 lt_p9 lt_p10 lt_p11 lt_p12 lt_p13 lt_p14 lt_p15 lt_p16 lt_p17 lt_p18 lt_p19 lt_p20 lt_p21 lt_p22 lt_p23 lt_p24 lt_p25 lt_p26 lt_p27 lt_p28 lt_p29 lt_p30 lt_p31 lt_p32 lt_q1 lt_q2 lt_q3 lt_q4 lt_q5 lt_q6 lt_q7 lt_q8 lt_q9 lt_q10 lt_q11 lt_q12 lt_q13 lt_q14 lt_q15 lt_q16 lt_q17 lt_q18 lt_q19 lt_q20 lt_q21 lt_q22 lt_q23 lt_q24 lt_q25 lt_q26 lt_q27 lt_q28 lt_q29 lt_q30 lt_q31 lt_q32 run_fop run_store_float
attribute [local go_sem high] cmp_eql cmp_neq cmp_lss cmp_leq cmp_gtr cmp_geq

theorem pointB_int {x y : Nat} (hx : x < 2 ^ 64) (hy : y < 2 ^ 64) (h : pointB x y = true) : ∃ a b : Int, IsV x a ∧ IsV y b ∧ (-1000 ≤ a ∧ a ≤ 1000) ∧ (-1000 ≤ b ∧ b ≤ 1000) := by
  unfold pointB at h
  simp only [Bool.and_eq_true] at h
  obtain ⟨a, h1, h2, h3, _⟩ := wholeB_int hx h.1
  obtain ⟨b, h4, h5, h6, _⟩ := wholeB_int hy h.2
  exact ⟨a, b, h1, h4, ⟨h2, h3⟩, h5, h6⟩
theorem isBoxB_points {ax ay bx by' : Nat} (h : isBoxB ax ay bx by' = true) : pointB ax ay = true ∧ pointB bx by' = true ∧ leF ax bx = true ∧ leF ay by' = true := by
  unfold isBoxB at h; simpa [and_assoc] using h

theorem hasB_le {ax ay bx by' px py : Nat} (h1 : ax < 2 ^ 64) (h2 : ay < 2 ^ 64) (h3 : bx < 2 ^ 64) (h4 : by' < 2 ^ 64) (h5 : px < 2 ^ 64) (h6 : py < 2 ^ 64)
    (c1 : pointB ax ay = true) (c2 : pointB bx by' = true) (c3 : pointB px py = true) : hasB ax ay bx by' px py = (leF ax px && leF px bx && leF ay py && leF py by') := by
  obtain ⟨a, b, i1, i2, _, _⟩ := pointB_int h1 h2 c1
  obtain ⟨c, d, i3, i4, _, _⟩ := pointB_int h3 h4 c2
  obtain ⟨p, q, i5, i6, _, _⟩ := pointB_int h5 h6 c3
  unfold hasB
  rw [ltF_int i6 i2, ltF_int i4 i6, ltF_int i5 i1, ltF_int i3 i5, leF_int i1 i5, leF_int i5 i3, leF_int i2 i6, leF_int i6 i4]
  rw [Bool.eq_iff_iff]
  simp
  omega

end Go.Proofs.YtnmokjgiilfdlaaGreatDoor
