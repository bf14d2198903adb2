/-
  laws.FnBoxesMeet, walked: it answers true.
-/
import Derived.Test.YtnmokjgiilfdlaaGreatDoorLawBox
set_option linter.all false
namespace Go.Proofs.YtnmokjgiilfdlaaGreatDoor
open PubFl

attribute [local go_sem] cell_ext frozen_ext ext_setCell cell_store size_ext_eq lt_p0 lt_p1 lt_p2 lt_p3 lt_p4 lt_p5 lt_p6 lt_p7 lt_p8 lt_p9 lt_p10 lt_p11 lt_p12 lt_p13 lt_p14 lt_p15 lt_p16 lt_p17 lt_p18 lt_p19 lt_p20 lt_p21 lt_p22 lt_p23 lt_p24 lt_p25 lt_p26 lt_p27 lt_p28 lt_p29 lt_p30 lt_p31 lt_p32 lt_q1 lt_q2 lt_q3 lt_q4 lt_q5 lt_q6 lt_q7 lt_q8 lt_q9 lt_q10 lt_q11 lt_q12 lt_q13 lt_q14 lt_q15 lt_q16 lt_q17 lt_q18 lt_q19 lt_q20 lt_q21 lt_q22 lt_q23 lt_q24 lt_q25 lt_q26 lt_q27 lt_q28 lt_q29 lt_q30 lt_q31 lt_q32 run_fop run_store_float
attribute [local go_sem high] cmp_eql cmp_neq cmp_lss cmp_leq cmp_gtr cmp_geq

/-- IsEmpty -/
def emptyB (ax ay bx by' : Nat) : Bool := gtF ax bx || gtF ay by'
/-- Intersects, of boxes that are none of them empty -/
def meetB (ax ay bx by' cx cy dx dy : Nat) : Bool := !(ltF bx cx || gtF ax dx || ltF by' cy || gtF ay dy)
theorem isBoxB_empty {ax ay bx by' : Nat} (h1 : ax < 2 ^ 64) (h2 : ay < 2 ^ 64) (h3 : bx < 2 ^ 64) (h4 : by' < 2 ^ 64) (h : isBoxB ax ay bx by' = true) : emptyB ax ay bx by' = false := by
  obtain ⟨b1, b2, b3, b4⟩ := isBoxB_points h
  obtain ⟨a, b, i1, i2, _, _⟩ := pointB_int h1 h2 b1
  obtain ⟨c, d, i3, i4, _, _⟩ := pointB_int h3 h4 b2
  rw [leF_int i1 i3] at b3
  rw [leF_int i2 i4] at b4
  unfold emptyB
  rw [gtF_int i1 i3, gtF_int i2 i4]
  simp at b3 b4 ⊢
  omega
theorem meetB_le {ax ay bx by' cx cy dx dy : Nat} (h1 : ax < 2 ^ 64) (h2 : ay < 2 ^ 64) (h3 : bx < 2 ^ 64) (h4 : by' < 2 ^ 64) (h5 : cx < 2 ^ 64) (h6 : cy < 2 ^ 64) (h7 : dx < 2 ^ 64) (h8 : dy < 2 ^ 64)
    (c1 : isBoxB ax ay bx by' = true) (c2 : isBoxB cx cy dx dy = true) : meetB ax ay bx by' cx cy dx dy = (leF ax dx && leF cx bx && leF ay dy && leF cy by') := by
  obtain ⟨b1, b2, _, _⟩ := isBoxB_points c1
  obtain ⟨b3, b4, _, _⟩ := isBoxB_points c2
  obtain ⟨a, b, i1, i2, _, _⟩ := pointB_int h1 h2 b1
  obtain ⟨c, d, i3, i4, _, _⟩ := pointB_int h3 h4 b2
  obtain ⟨p, q, i5, i6, _, _⟩ := pointB_int h5 h6 b3
  obtain ⟨r, s, i7, i8, _, _⟩ := pointB_int h7 h8 b4
  unfold meetB
  rw [ltF_int i3 i5, gtF_int i1 i7, ltF_int i4 i6, gtF_int i2 i8, leF_int i1 i7, leF_int i5 i3, leF_int i2 i8, leF_int i6 i4]
  rw [Bool.eq_iff_iff]
  simp
  omega

end Go.Proofs.YtnmokjgiilfdlaaGreatDoor
