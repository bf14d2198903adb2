/-
  The border of a box: a simple ring. Plain facts, and impl.BoxRing walked.
-/
import Derived.Test.YtdkadjjapmcadaaSimple
import Derived.Test.YtdkadjjapmcadaaLawBox
namespace Go.Proofs.Ytdkadjjapmcadaa
open PubFl Go.RowKit

attribute [local go_sem] cell_ext frozen_ext ext_setCell cell_store size_ext_eq lt_p0 lt_p1 lt_p2 lt_p3 lt_p4 lt_p5 lt_p6 lt_p7 lt_p8 lt_p9 lt_p10 lt_p11 lt_p12 lt_p13 lt_p14 lt_p15 lt_p16 lt_p17 lt_p18 lt_p19 lt_p20 lt_p21 lt_p22 lt_p23 lt_p24 lt_p25 lt_p26 lt_p27 lt_p28 lt_p29 lt_p30 lt_p31 lt_p32 lt_q1 lt_q2 lt_q3 lt_q4 lt_q5 lt_q6 lt_q7 lt_q8 lt_q9 lt_q10 lt_q11 lt_q12 lt_q13 lt_q14 lt_q15 lt_q16 lt_q17 lt_q18 lt_q19 lt_q20 lt_q21 lt_q22 lt_q23 lt_q24 lt_q25 lt_q26 lt_q27 lt_q28 lt_q29 lt_q30 lt_q31 lt_q32 run_fop run_store_float
attribute [local go_sem high] cmp_eql cmp_neq cmp_lss cmp_leq cmp_gtr cmp_geq

/-- the corners, in order -/
def boxX (x0 x1 : Int) : Nat → Int
  | 0 => x0
  | 1 => x1
  | 2 => x1
  | 3 => x0
  | _ => x0
def boxY (y0 y1 : Int) : Nat → Int
  | 0 => y0
  | 1 => y0
  | 2 => y1
  | 3 => y1
  | _ => y0

theorem onSegI_no {a b p : Int × Int} (h : crossI a.1 a.2 b.1 b.2 p.1 p.2 ≠ 0) : onSegI a b p = false := by
  unfold onSegI; rw [decide_eq_false h]; rfl
theorem meetI_no {a b c d : Int × Int} {A : Int} (hA : 0 < A) (h1 : crossP a b c = A) (h2 : crossP a b d = A) (h3 : crossP c d a ≠ 0) (h4 : crossP c d b ≠ 0) : meetI a b c d = false := by
  unfold meetI
  have hs : sgn A = 1 := by unfold sgn; rw [if_pos hA]
  rw [onSegI_no (a := a) (b := b) (p := c) (by unfold crossP at h1; omega), onSegI_no (a := a) (b := b) (p := d) (by unfold crossP at h2; omega), onSegI_no h3, onSegI_no h4, h1, h2, hs]
  rfl

theorem box_area {x0 y0 x1 y1 : Int} : sumTo (crossT (boxX x0 x1) (boxY y0 y1)) 4 = 2 * ((x1 - x0) * (y1 - y0)) := by
  simp only [sumTo, crossT, boxX, boxY]
  grind
theorem box_simple {x0 y0 x1 y1 : Int} (hx : x0 < x1) (hy : y0 < y1) : simpleI (fun i => (boxX x0 x1 i, boxY y0 y1 i)) 4 1 = true := by
  obtain ⟨A, hA⟩ : ∃ A, A = (x1 - x0) * (y1 - y0) := ⟨_, rfl⟩
  have hp : 0 < A := by rw [hA]; exact Int.mul_pos (by omega) (by omega)
  have e1 : crossI x0 y0 x1 y0 x1 y1 = A := by unfold crossI; grind
  have e2 : crossI x1 y0 x1 y1 x0 y0 = A := by unfold crossI; grind
  have e3 : crossI x1 y0 x1 y1 x0 y1 = A := by unfold crossI; grind
  have e4 : crossI x1 y1 x0 y1 x1 y0 = A := by unfold crossI; grind
  have e5 : crossI x1 y1 x0 y1 x0 y0 = A := by unfold crossI; grind
  have e6 : crossI x0 y1 x0 y0 x1 y1 = A := by unfold crossI; grind
  have e7 : crossI x0 y0 x1 y0 x0 y1 = A := by unfold crossI; grind
  have e8 : crossI x0 y1 x0 y0 x1 y0 = A := by unfold crossI; grind
  have hne : A ≠ 0 := by omega
  have o1 := onSegI_no (a := (x0, y0)) (b := (x1, y0)) (p := (x1, y1)) (by rw [e1]; exact hne)
  have o2 := onSegI_no (a := (x1, y0)) (b := (x1, y1)) (p := (x0, y0)) (by rw [e2]; exact hne)
  have o3 := onSegI_no (a := (x1, y0)) (b := (x1, y1)) (p := (x0, y1)) (by rw [e3]; exact hne)
  have o4 := onSegI_no (a := (x1, y1)) (b := (x0, y1)) (p := (x1, y0)) (by rw [e4]; exact hne)
  have o5 := onSegI_no (a := (x1, y1)) (b := (x0, y1)) (p := (x0, y0)) (by rw [e5]; exact hne)
  have o6 := onSegI_no (a := (x0, y1)) (b := (x0, y0)) (p := (x1, y1)) (by rw [e6]; exact hne)
  have o7 := onSegI_no (a := (x0, y0)) (b := (x1, y0)) (p := (x0, y1)) (by rw [e7]; exact hne)
  have o8 := onSegI_no (a := (x0, y1)) (b := (x0, y0)) (p := (x1, y0)) (by rw [e8]; exact hne)
  have m1 := meetI_no (a := (x0, y0)) (b := (x1, y0)) (c := (x1, y1)) (d := (x0, y1)) hp e1 e7 (by unfold crossP; rw [e5]; exact hne) (by unfold crossP; rw [e4]; exact hne)
  have m2 := meetI_no (a := (x1, y0)) (b := (x1, y1)) (c := (x0, y1)) (d := (x0, y0)) hp e3 e2 (by unfold crossP; rw [e8]; exact hne) (by unfold crossP; rw [e6]; exact hne)
  have n1 : ¬ x0 = x1 := by omega
  have n2 : ¬ y0 = y1 := by omega
  have n3 : ¬ x1 = x0 := by omega
  have n4 : ¬ y1 = y0 := by omega
  simp [simpleI, rowI, pairI, sameP, List.range, List.range.loop, boxX, boxY, o1, o2, o3, o4, o5, o6, o7, o8, m1, m2, n1, n2, n3, n4]

def ring5 (ax ay bx by' : Nat) : List (Nat × Nat) := [(ax, ay), (bx, ay), (bx, by'), (ax, by'), (ax, ay)]
theorem ring5_ints {ax ay bx by' : Nat} {x0 y0 x1 y1 : Int} (h1 : IsV ax x0) (h2 : IsV ay y0) (h3 : IsV bx x1) (h4 : IsV by' y1) (b1 : -1000 ≤ x0 ∧ x0 ≤ 1000) (b2 : -1000 ≤ y0 ∧ y0 ≤ 1000) (b3 : -1000 ≤ x1 ∧ x1 ≤ 1000) (b4 : -1000 ≤ y1 ∧ y1 ≤ 1000) :
    IntPts (ring5 ax ay bx by') (boxX x0 x1) (boxY y0 y1) := by
  intro i hi
  have hi5 : i < 5 := hi
  rcases (show i = 0 ∨ i = 1 ∨ i = 2 ∨ i = 3 ∨ i = 4 by omega) with rfl | rfl | rfl | rfl | rfl
  · exact ⟨h1, h2, b1, b2⟩
  · exact ⟨h3, h2, b3, b2⟩
  · exact ⟨h3, h4, b3, b4⟩
  · exact ⟨h1, h4, b1, b4⟩
  · exact ⟨h1, h2, b1, b2⟩

theorem toRing_c (ax ay bx by' : Nat) (w : World) : Calls Try.prog 67 #[.agg #[.float .f64 ax, .float .f64 ay, .float .f64 bx, .float .f64 by']] w (RetO w 59 (ring5 ax ay bx by')) := by
  go_enter Try.func67, Try.ntmps67
  go_wp2_with fail
  go_ret
  have h := World.ownsRow_lit (base := w.heap.size) (e := 59) (size := 2) (w.alloc (.cells #[.float .f64 ax, .float .f64 ay, .float .f64 bx, .float .f64 by'] 61)) #[.float .f64 ax, .float .f64 ay, .float .f64 bx, .float .f64 ay, .float .f64 bx, .float .f64 by', .float .f64 ax, .float .f64 by', .float .f64 ax, .float .f64 ay] 5 (by simp) (by decide) rfl
  rw [World.size_alloc] at h
  exact RetO.mk (v := .slice (some ⟨w.heap.size + 1, 0, none⟩) 5 5) rfl (by repeat (first | (with_reducible exact Kp.refl _) | (with_reducible assumption) | (with_reducible apply Kp.ext) | (with_reducible apply Kp.alloc) | (with_reducible apply Kp.drew) | (with_reducible apply Kp.drewN) | (with_reducible refine Kp.setCell ?_ (by first | (dsimp only; omega) | (simp; omega) | (simp; done) | (simp [size_ext_eq]; omega)) _))) h

theorem boxRing_c (ax ay bx by' : Nat) (w : World) : Calls Try.prog 37 #[.agg #[.float .f64 ax, .float .f64 ay], .agg #[.float .f64 bx, .float .f64 by']] w (fun e w2 => ∃ g cap', e = .returned (.slice (some ⟨g, 0, none⟩) 5 cap') ∧ g < w2.heap.size ∧ PtsAt w2 g 0 (ring5 ax ay bx by') ∧ Kp w w2) := by
  go_enter Try.func37, Try.ntmps37
  go_wp2_with (first | (go_at_call 49; (first | (with_reducible refine (Ret.at_ext (box_c _ _ _ _ _)).mono ?_) | (with_reducible refine (box_c _ _ _ _ _).mono ?_)); rintro e w' ⟨rfl, u, rfl⟩) | (go_at_call 67; (with_reducible refine (toRing_c _ _ _ _ _).mono ?_); rintro e w1 ⟨v, u, rfl, hu1, hp⟩; have hk1 : Kp w w1 := (by rw [hu1]; exact Kp.ext (by repeat (first | (with_reducible exact Kp.refl _) | (with_reducible assumption) | (with_reducible apply Kp.ext) | (with_reducible apply Kp.alloc) | (with_reducible apply Kp.drew) | (with_reducible apply Kp.drewN) | (with_reducible refine Kp.setCell ?_ (by first | (dsimp only; omega) | (simp; omega) | (simp; done) | (simp [size_ext_eq]; omega)) _))) _); clear hu1; obtain ⟨g, cap', rfl, _, hg2, _, _, hpt⟩ := hp.form (by show 0 < 5; decide)) | (go_at_call 47; refine (listOf_c _ _ (ring5 ax ay bx by') (by show 5 ≤ _; decide) _ (.inr ⟨g, 0, rfl, hg2, hpt⟩)).mono ?_; rintro e w2 ⟨v2, u2, rfl, hu2, hp2⟩; have hk2 : Kp w w2 := (by rw [hu2]; exact Kp.ext hk1 _); clear hu2; obtain ⟨g2, cap2, rfl, _, hg3, _, _, hpt2⟩ := hp2.form (by show 0 < 5; decide)))
  go_ret
  exact ⟨_, _, rfl, hg3, hpt2, hk2⟩
end Go.Proofs.Ytdkadjjapmcadaa
