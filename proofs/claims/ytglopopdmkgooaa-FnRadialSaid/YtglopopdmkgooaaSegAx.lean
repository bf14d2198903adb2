/-
  A segment along an axis: the program's answer is near the exact one. Plain facts.
-/
import Derived.Test.YtglopopdmkgooaaSegF
namespace Go.Proofs.Ytglopopdmkgooaa
open PubFl

theorem SegNear.swap {a b c d e f : Int} {σ : Rat} (h : SegNear a b c d e f σ) : SegNear b a d c f e σ := by
  unfold SegNear at *
  rw [Int.add_comm ((f - b) * (d - b)), Int.add_comm ((f - b) * (f - b)), Int.add_comm ((d - b) * (d - b)), Int.add_comm ((f - d) * (f - d))]
  have e : ((d - b) * (e - a) - (c - a) * (f - b)) * ((d - b) * (e - a) - (c - a) * (f - b)) = ((c - a) * (f - b) - (d - b) * (e - a)) * ((c - a) * (f - b) - (d - b) * (e - a)) := by grind
  rw [e]
  exact h

theorem mul_pos_of {x y : Int} (h : 0 < x * y) : (0 < x ∧ 0 < y) ∨ (x < 0 ∧ y < 0) := by
  rcases Int.lt_trichotomy x 0 with c | c | c
  · rcases Int.lt_trichotomy y 0 with d | d | d
    · exact .inr ⟨c, d⟩
    · subst d; simp at h
    · have := Int.mul_neg_of_neg_of_pos c d; omega
  · subst c; simp at h
  · rcases Int.lt_trichotomy y 0 with d | d | d
    · have := Int.mul_neg_of_pos_of_neg c d; omega
    · subst d; simp at h
    · exact .inl ⟨c, d⟩

/-- the nearest place along an axis -/
def clampI (a c e : Int) : Int := max (min a c) (min e (max a c))

theorem seg_axis {a b c e f : Int} {σ : Rat} (h : SegNear a b c b e f σ) (b1 : -2000 ≤ b ∧ b ≤ 2000) (b2 : -2000 ≤ f ∧ f ≤ 2000) :
    Within σ (((clampI a c e - e) * (clampI a c e - e) + (b - f) * (b - f) : Int) : Rat) (1 / 2000000) := by
  have same : ∀ z : Int, clampI a c e = z → σ = (((e - z) * (e - z) + (f - b) * (f - b) : Int) : Rat) → Within σ (((clampI a c e - e) * (clampI a c e - e) + (b - f) * (b - f) : Int) : Rat) (1 / 2000000) := by
    intro z hz hs
    rw [hs, hz, show (z - e) * (z - e) = (e - z) * (e - z) by grind, show (b - f) * (b - f) = (f - b) * (f - b) by grind]
    constructor <;> grind
  unfold SegNear at h
  rw [show b - b = 0 by omega] at h
  simp only [Int.mul_zero, Int.add_zero, Int.zero_mul, Int.sub_zero] at h
  by_cases c1 : (e - a) * (c - a) ≤ 0
  · rw [if_pos c1] at h
    refine same a ?_ h
    unfold clampI
    rcases Int.lt_trichotomy (c - a) 0 with g | g | g
    · have : ¬ (e - a < 0) := fun g' => by have := Int.mul_pos_of_neg_of_neg g' g; omega
      omega
    · omega
    · have : ¬ (0 < e - a) := fun g' => by have := Int.mul_pos g' g; omega
      omega
  · rw [if_neg c1] at h
    have hp := mul_pos_of (show 0 < (e - a) * (c - a) by omega)
    by_cases c2 : (c - a) * (c - a) < (e - a) * (c - a)
    · rw [if_pos c2] at h
      refine same c ?_ h
      have h3 : 0 < (e - c) * (c - a) := by
        have : (e - c) * (c - a) = (e - a) * (c - a) - (c - a) * (c - a) := by grind
        omega
      have := mul_pos_of h3
      unfold clampI
      omega
    · rw [if_neg c2] at h
      have hcl : clampI a c e = e := by
        unfold clampI
        have h3 : ¬ (0 < (e - c) * (c - a)) := by
          have : (e - c) * (c - a) = (e - a) * (c - a) - (c - a) * (c - a) := by grind
          omega
        rcases hp with ⟨p1, p2⟩ | ⟨p1, p2⟩
        · have : ¬ (0 < e - c) := fun g => h3 (Int.mul_pos g p2)
          omega
        · have : ¬ (e - c < 0) := fun g => h3 (Int.mul_pos_of_neg_of_neg g p2)
          omega
      obtain ⟨_, S, hS0, hS, hw⟩ := h
      have hSf : S = ((f - b : Int) : Rat) * ((f - b : Int) : Rat) := by
        have hD : ((c - a : Int) : Rat) ≠ 0 := by
          intro h0
          have : (c - a : Int) = 0 := Rat.intCast_inj.1 h0
          omega
        simp only [Rat.intCast_mul] at hS
        generalize ((c - a : Int) : Rat) = X at *
        generalize ((f - b : Int) : Rat) = Y at *
        have e1 : (S - Y * Y) * (X * X) = 0 := by grind
        rcases Rat.mul_eq_zero.1 e1 with g | g
        · grind
        · rcases Rat.mul_eq_zero.1 g with g | g <;> exact absurd g hD
      have hm : Mag ((f - b : Int) : Rat) 4000 := ⟨int_le (a := -4000) (by omega), int_le (b := 4000) (by omega)⟩
      obtain ⟨_, hS2⟩ := mag_mul hm hm
      rw [← hSf] at hS2
      obtain ⟨s, hs0, ⟨w1, w2⟩, w3, w4⟩ := hw (1 / 100000000000000) 100000000000000 (by grind) (by decide)
      have tl := tiny_lit
      rw [eps_lit] at w3 w4
      rw [hcl, show e - e = 0 by omega, Int.mul_zero, Int.zero_add, show (b - f) * (b - f) = (f - b) * (f - b) by grind, Rat.intCast_mul, ← hSf]
      constructor <;> grind

theorem micro_isV : ∃ v : Rat, IsV 4517329193108106637 v ∧ 9 / 10000000 ≤ v := by
  refine ⟨rat false (4517329193108106637 % 2 ^ 52 + 2 ^ 52) (4517329193108106637 / 2 ^ 52 - 1075), ⟨by decide, false, _, _, ?_, rfl⟩, ?_⟩
  · decide +kernel
  · decide +kernel

/-- two numbers that are near are found near -/
theorem near_less {x y : Nat} {p q : Rat} (hx : IsV x p) (hy : IsV y q) (hw : Within p q (1 / 2000000)) : FOk .sub x y ∧ ltF (absF (fop .sub x y)) 4517329193108106637 = true := by
  obtain ⟨w1, w2⟩ := hw
  obtain ⟨r, o, v, ⟨x1, x2⟩⟩ := sub_near (M := 1) hx hy (by constructor <;> grind) (huge_ge (by decide))
  obtain ⟨m, hm, hm2⟩ := micro_isV
  have tl := tiny_lit
  rw [eps_lit] at x1 x2
  refine ⟨o, ?_⟩
  rw [ltF_isV (absF_isV v) hm]
  apply decide_eq_true
  split <;> grind
end Go.Proofs.Ytglopopdmkgooaa
