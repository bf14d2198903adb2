/-
  Rays from a point to the right and upwards go through as many sides of a closed ring, but for an even number: plain facts on whole numbers.
-/
import Derived.Test.YtohidpmkoehmcaaGreatDoorOnSeg
set_option linter.all false
namespace Go.Proofs.YtohidpmkoehmcaaGreatDoor
open PubFl

/-- a ray to the right goes through a side -/
def rightI (a b p : Int × Int) : Bool :=
  (decide (a.2 ≤ p.2) && decide (p.2 < b.2) && decide (0 < crossP a b p)) || (decide (b.2 ≤ p.2) && decide (p.2 < a.2) && decide (crossP a b p < 0))
/-- a ray upwards goes through a side -/
def upI (a b p : Int × Int) : Bool :=
  (decide (a.1 ≤ p.1) && decide (p.1 < b.1) && decide (crossP a b p < 0)) || (decide (b.1 ≤ p.1) && decide (p.1 < a.1) && decide (0 < crossP a b p))
def quadI (p a : Int × Int) : Bool := decide (p.1 < a.1) && decide (p.2 < a.2)

theorem sgn_prod (a b : Int) : (0 < a ∧ 0 < b ∧ 0 < a * b) ∨ (0 < a ∧ b ≤ 0 ∧ a * b ≤ 0) ∨ (a ≤ 0 ∧ 0 < b ∧ a * b ≤ 0) ∨ (a ≤ 0 ∧ b ≤ 0 ∧ 0 ≤ a * b) := by
  by_cases h : 0 < a <;> by_cases k : 0 < b
  · exact .inl ⟨h, k, Int.mul_pos h k⟩
  · exact .inr (.inl ⟨h, by omega, Int.mul_nonpos_of_nonneg_of_nonpos (by omega) (by omega)⟩)
  · exact .inr (.inr (.inl ⟨by omega, k, Int.mul_nonpos_of_nonpos_of_nonneg (by omega) (by omega)⟩))
  · exact .inr (.inr (.inr ⟨by omega, by omega, Int.mul_nonneg_of_nonpos_of_nonpos (by omega) (by omega)⟩))
/-- .. where the second one is greater than 0, or less -/
theorem sgn_up (a b : Int) (k : 0 < b) : (0 < a ∧ 0 < a * b) ∨ (a ≤ 0 ∧ a * b ≤ 0) := by
  by_cases h : 0 < a
  · exact .inl ⟨h, Int.mul_pos h k⟩
  · exact .inr ⟨by omega, Int.mul_nonpos_of_nonpos_of_nonneg (by omega) (by omega)⟩
theorem sgn_dn (a b : Int) (k : b < 0) : (0 < a ∧ a * b < 0) ∨ (a ≤ 0 ∧ 0 ≤ a * b) := by
  by_cases h : 0 < a
  · exact .inl ⟨h, Int.mul_neg_of_pos_of_neg h k⟩
  · exact .inr ⟨by omega, Int.mul_nonneg_of_nonpos_of_nonpos (by omega) (by omega)⟩

theorem side_par (a b p : Int × Int) (h : onSegI a b p = false) : (rightI a b p ^^ upI a b p) = (quadI p a ^^ quadI p b) := by
  obtain ⟨a1, a2⟩ := a
  obtain ⟨b1, b2⟩ := b
  obtain ⟨p1, p2⟩ := p
  -- beside the point
  obtain ⟨u1, hu1⟩ : ∃ u, u = a1 - p1 := ⟨_, rfl⟩
  obtain ⟨u2, hu2⟩ : ∃ u, u = a2 - p2 := ⟨_, rfl⟩
  obtain ⟨v1, hv1⟩ : ∃ u, u = b1 - p1 := ⟨_, rfl⟩
  obtain ⟨v2, hv2⟩ : ∃ u, u = b2 - p2 := ⟨_, rfl⟩
  have hc : crossP (a1, a2) (b1, b2) (p1, p2) = u1 * v2 - u2 * v1 := by
    unfold crossP crossI
    obtain rfl : a1 = u1 + p1 := by omega
    obtain rfl : a2 = u2 + p2 := by omega
    obtain rfl : b1 = v1 + p1 := by omega
    obtain rfl : b2 = v2 + p2 := by omega
    simp only
    grind
  have hon : ¬ (u1 * v2 - u2 * v1 = 0 ∧ min u1 v1 ≤ 0 ∧ 0 ≤ max u1 v1 ∧ min u2 v2 ≤ 0 ∧ 0 ≤ max u2 v2) := by
    intro hh
    have : crossI a1 a2 b1 b2 p1 p2 = 0 := by
      have := hc
      unfold crossP at this
      simp only at this
      omega
    unfold onSegI at h
    simp only [this] at h
    rw [decide_eq_true (show min a1 b1 ≤ p1 by omega), decide_eq_true (show p1 ≤ max a1 b1 by omega), decide_eq_true (show min a2 b2 ≤ p2 by omega), decide_eq_true (show p2 ≤ max a2 b2 by omega)] at h
    simp at h
  have s1 := sgn_prod u1 v2
  have s2 := sgn_prod u2 v1
  unfold rightI upI quadI
  rw [hc]
  simp only
  rw [show decide (a2 ≤ p2) = decide (u2 ≤ 0) from decide_eq_decide.2 (by omega), show decide (p2 < b2) = decide (0 < v2) from decide_eq_decide.2 (by omega),
    show decide (b2 ≤ p2) = decide (v2 ≤ 0) from decide_eq_decide.2 (by omega), show decide (p2 < a2) = decide (0 < u2) from decide_eq_decide.2 (by omega),
    show decide (a1 ≤ p1) = decide (u1 ≤ 0) from decide_eq_decide.2 (by omega), show decide (p1 < b1) = decide (0 < v1) from decide_eq_decide.2 (by omega),
    show decide (b1 ≤ p1) = decide (v1 ≤ 0) from decide_eq_decide.2 (by omega), show decide (p1 < a1) = decide (0 < u1) from decide_eq_decide.2 (by omega)]
  clear hc h hu1 hu2 hv1 hv2
  generalize u1 * v2 = A at *
  generalize u2 * v1 = B at *
  obtain ⟨D, hD⟩ : ∃ D, A - B = D := ⟨_, rfl⟩
  rw [hD] at hon ⊢
  have d1 : decide (u1 ≤ 0) = !decide (0 < u1) := by rw [← decide_not]; exact decide_eq_decide.2 (by omega)
  have d2 : decide (u2 ≤ 0) = !decide (0 < u2) := by rw [← decide_not]; exact decide_eq_decide.2 (by omega)
  have d3 : decide (v1 ≤ 0) = !decide (0 < v1) := by rw [← decide_not]; exact decide_eq_decide.2 (by omega)
  have d4 : decide (v2 ≤ 0) = !decide (0 < v2) := by rw [← decide_not]; exact decide_eq_decide.2 (by omega)
  rw [d1, d2, d3, d4]
  clear d1 d2 d3 d4
  rcases s1 with ⟨c1, c4, hA⟩ | ⟨c1, c4, hA⟩ | ⟨c1, c4, hA⟩ | ⟨c1, c4, hA⟩ <;> rcases s2 with ⟨c2, c3, hB⟩ | ⟨c2, c3, hB⟩ | ⟨c2, c3, hB⟩ | ⟨c2, c3, hB⟩
  all_goals
    first | rw [decide_eq_false (show ¬ 0 < u1 by omega)] | rw [decide_eq_true (show 0 < u1 by omega)]
    first | rw [decide_eq_false (show ¬ 0 < u2 by omega)] | rw [decide_eq_true (show 0 < u2 by omega)]
    first | rw [decide_eq_false (show ¬ 0 < v1 by omega)] | rw [decide_eq_true (show 0 < v1 by omega)]
    first | rw [decide_eq_false (show ¬ 0 < v2 by omega)] | rw [decide_eq_true (show 0 < v2 by omega)]
    (simp only [Bool.not_true, Bool.not_false, Bool.false_and, Bool.true_and, Bool.and_true, Bool.and_false, Bool.or_false, Bool.false_or]) <;> first
    | rfl
    | (simp only [Bool.xor_self]; done)
    | (have hx : ¬ D < 0 := by omega
       have hy : 0 < D := by omega
       simp [hx, hy]; done)
    | (have hx : D < 0 := by omega
       have hy : ¬ 0 < D := by omega
       simp [hx, hy]; done)
    | (have hx : ¬ D < 0 := by omega
       simp [hx]; done)
    | (have hy : ¬ 0 < D := by omega
       simp [hy]; done)
    | (have hz : D ≠ 0 := fun e => hon ⟨e, by omega, by omega, by omega, by omega⟩
       rcases Int.lt_or_gt_of_ne hz with hx | hy
       · have hy : ¬ 0 < D := by omega
         simp [hx, hy]; done
       · have hx : ¬ D < 0 := by omega
         simp [hx, hy]; done)

/-- how many of the first so many are true, but for an even number -/
def parTo (f : Nat → Bool) : Nat → Bool
  | 0 => false
  | k + 1 => parTo f k ^^ f k
theorem parTo_congr {f g : Nat → Bool} : ∀ {n : Nat}, (∀ i, i < n → f i = g i) → parTo f n = parTo g n
  | 0, _ => rfl
  | n + 1, h => by
    unfold parTo
    rw [parTo_congr fun i hi => h i (by omega), h n (by omega)]
theorem parTo_xor (f g : Nat → Bool) : ∀ n, parTo (fun i => f i ^^ g i) n = (parTo f n ^^ parTo g n)
  | 0 => rfl
  | n + 1 => by
    unfold parTo
    rw [parTo_xor f g n]
    cases parTo f n <;> cases parTo g n <;> cases f n <;> cases g n <;> rfl
theorem parTo_tele (q : Nat → Bool) : ∀ n, parTo (fun i => q i ^^ q (i + 1)) n = (q 0 ^^ q n)
  | 0 => by unfold parTo; cases q 0 <;> rfl
  | n + 1 => by
    unfold parTo
    rw [parTo_tele q n]
    cases q 0 <;> cases q n <;> cases q (n + 1) <;> rfl
theorem parTo_false {f : Nat → Bool} : ∀ {n : Nat}, (∀ i, i < n → f i = false) → parTo f n = false
  | 0, _ => rfl
  | n + 1, h => by
    unfold parTo
    rw [parTo_false fun i hi => h i (by omega), h n (by omega)]; rfl
/-- ROUND A RING: both rays tell the same. -/
theorem ring_par (P : Nat → Int × Int) (n : Nat) (hc : P n = P 0) (p : Int × Int) (h : ∀ i, i < n → onSegI (P i) (P (i + 1)) p = false) :
    parTo (fun i => rightI (P i) (P (i + 1)) p) n = parTo (fun i => upI (P i) (P (i + 1)) p) n := by
  have h1 : parTo (fun i => rightI (P i) (P (i + 1)) p ^^ upI (P i) (P (i + 1)) p) n = parTo (fun i => quadI p (P i) ^^ quadI p (P (i + 1))) n := parTo_congr fun i hi => side_par _ _ _ (h i hi)
  rw [parTo_xor, parTo_tele (fun i => quadI p (P i)), hc, Bool.xor_self] at h1
  cases h2 : parTo (fun i => rightI (P i) (P (i + 1)) p) n <;> cases h3 : parTo (fun i => upI (P i) (P (i + 1)) p) n <;> rw [h2, h3] at h1 <;> first | rfl | cases h1
/-- beyond the box of a ring a ray upwards tells no -/
theorem out_par (P : Nat → Int × Int) (n : Nat) (hc : P n = P 0) (p : Int × Int) (h : (∀ i, i ≤ n → p.1 < (P i).1) ∨ (∀ i, i ≤ n → (P i).1 < p.1) ∨ (∀ i, i ≤ n → p.2 < (P i).2) ∨ (∀ i, i ≤ n → (P i).2 < p.2)) :
    parTo (fun i => upI (P i) (P (i + 1)) p) n = false := by
  rcases h with h | h | h | h
  · refine parTo_false fun i hi => ?_
    have h1 := h i (by omega)
    have h2 := h (i + 1) (by omega)
    unfold upI
    rw [decide_eq_false (show ¬ (P i).1 ≤ p.1 by omega), decide_eq_false (show ¬ (P (i + 1)).1 ≤ p.1 by omega)]; rfl
  · refine parTo_false fun i hi => ?_
    have h1 := h i (by omega)
    have h2 := h (i + 1) (by omega)
    unfold upI
    rw [decide_eq_false (show ¬ p.1 < (P i).1 by omega), decide_eq_false (show ¬ p.1 < (P (i + 1)).1 by omega)]; simp
  · have e : parTo (fun i => upI (P i) (P (i + 1)) p) n = parTo (fun i => decide (p.1 < (P i).1) ^^ decide (p.1 < (P (i + 1)).1)) n := parTo_congr fun i hi => by
      have h1 := h i (by omega)
      have h2 := h (i + 1) (by omega)
      have hx := sgn_up ((P i).1 - p.1) ((P (i + 1)).2 - p.2) (by omega)
      have hy := sgn_up ((P (i + 1)).1 - p.1) ((P i).2 - p.2) (by omega)
      have hcr : crossP (P i) (P (i + 1)) p = ((P i).1 - p.1) * ((P (i + 1)).2 - p.2) - ((P (i + 1)).1 - p.1) * ((P i).2 - p.2) := by unfold crossP crossI; grind
      unfold upI
      rw [hcr]
      generalize ((P i).1 - p.1) * ((P (i + 1)).2 - p.2) = A at *
      generalize ((P (i + 1)).1 - p.1) * ((P i).2 - p.2) = B at *
      clear h hcr
      rcases hx with ⟨c1, hA⟩ | ⟨c1, hA⟩ <;> rcases hy with ⟨c2, hB⟩ | ⟨c2, hB⟩
      · rw [decide_eq_false (show ¬ (P i).1 ≤ p.1 by omega), decide_eq_false (show ¬ (P (i + 1)).1 ≤ p.1 by omega), decide_eq_true (show p.1 < (P i).1 by omega), decide_eq_true (show p.1 < (P (i + 1)).1 by omega)]; rfl
      · rw [decide_eq_false (show ¬ (P i).1 ≤ p.1 by omega), decide_eq_true (show (P (i + 1)).1 ≤ p.1 by omega), decide_eq_true (show 0 < A - B by omega), decide_eq_true (show p.1 < (P i).1 by omega), decide_eq_false (show ¬ p.1 < (P (i + 1)).1 by omega)]; rfl
      · rw [decide_eq_true (show (P i).1 ≤ p.1 by omega), decide_eq_false (show ¬ (P (i + 1)).1 ≤ p.1 by omega), decide_eq_true (show A - B < 0 by omega), decide_eq_false (show ¬ p.1 < (P i).1 by omega), decide_eq_true (show p.1 < (P (i + 1)).1 by omega)]; rfl
      · rw [decide_eq_false (show ¬ p.1 < (P i).1 by omega), decide_eq_false (show ¬ p.1 < (P (i + 1)).1 by omega)]; simp
    rw [e, parTo_tele (fun i => decide (p.1 < (P i).1)), hc, Bool.xor_self]
  · refine parTo_false fun i hi => ?_
    have h1 := h i (by omega)
    have h2 := h (i + 1) (by omega)
    have hx := sgn_dn ((P i).1 - p.1) ((P (i + 1)).2 - p.2) (by omega)
    have hy := sgn_dn ((P (i + 1)).1 - p.1) ((P i).2 - p.2) (by omega)
    have hcr : crossP (P i) (P (i + 1)) p = ((P i).1 - p.1) * ((P (i + 1)).2 - p.2) - ((P (i + 1)).1 - p.1) * ((P i).2 - p.2) := by unfold crossP crossI; grind
    unfold upI
    rw [hcr]
    generalize ((P i).1 - p.1) * ((P (i + 1)).2 - p.2) = A at *
    generalize ((P (i + 1)).1 - p.1) * ((P i).2 - p.2) = B at *
    clear h hcr
    rcases hx with ⟨c1, hA⟩ | ⟨c1, hA⟩ <;> rcases hy with ⟨c2, hB⟩ | ⟨c2, hB⟩
    · rw [decide_eq_false (show ¬ (P i).1 ≤ p.1 by omega), decide_eq_false (show ¬ (P (i + 1)).1 ≤ p.1 by omega)]; simp
    · rw [decide_eq_false (show ¬ (P i).1 ≤ p.1 by omega), decide_eq_false (show ¬ 0 < A - B by omega)]; simp
    · rw [decide_eq_false (show ¬ (P (i + 1)).1 ≤ p.1 by omega), decide_eq_false (show ¬ A - B < 0 by omega)]; simp
    · rw [decide_eq_false (show ¬ p.1 < (P i).1 by omega), decide_eq_false (show ¬ p.1 < (P (i + 1)).1 by omega)]; simp
end Go.Proofs.YtohidpmkoehmcaaGreatDoor
