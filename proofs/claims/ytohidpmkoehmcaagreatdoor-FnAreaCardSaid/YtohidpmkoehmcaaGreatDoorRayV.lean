/-
  What a ray upwards meets of a side: the cases, plain facts; and facts on the number next to a whole one.
-/
import Derived.Test.YtohidpmkoehmcaaGreatDoorRayF
import Derived.Test.YtohidpmkoehmcaaGreatDoorPar
set_option linter.all false
namespace Go.Proofs.YtohidpmkoehmcaaGreatDoor
open PubFl Ieee

/-- what planar.rayIntersect tells -/
def upB (s e p : Int × Int) : Bool := upI s e p && !onSegI s e p
theorem cross_eq (s e p : Int × Int) : crossP s e p = (e.1 - s.1) * (p.2 - s.2) - (e.2 - s.2) * (p.1 - s.1) := rfl
theorem cross_eq2 (s e p : Int × Int) : crossP s e p = (e.1 - s.1) * (p.2 - e.2) + (e.2 - s.2) * (e.1 - p.1) := by rw [cross_eq]; grind
theorem on_swap (s e p : Int × Int) : onSegI s e p = onSegI e s p := by
  have h : crossI s.1 s.2 e.1 e.2 p.1 p.2 = -crossI e.1 e.2 s.1 s.2 p.1 p.2 := by unfold crossI; grind
  unfold onSegI
  rw [show decide (crossI s.1 s.2 e.1 e.2 p.1 p.2 = 0) = decide (crossI e.1 e.2 s.1 s.2 p.1 p.2 = 0) from decide_eq_decide.2 (by omega),
    Int.min_comm s.1, Int.max_comm s.1, Int.min_comm s.2, Int.max_comm s.2]
theorem up_swap (s e p : Int × Int) : upI s e p = upI e s p := by
  have h : crossP s e p = -crossP e s p := by unfold crossP crossI; grind
  unfold upI
  rw [h, show decide (-crossP e s p < 0) = decide (0 < crossP e s p) from decide_eq_decide.2 (by omega), show decide (0 < -crossP e s p) = decide (crossP e s p < 0) from decide_eq_decide.2 (by omega), Bool.or_comm]
theorem upB_swap (s e p : Int × Int) : upB s e p = upB e s p := by unfold upB; rw [on_swap, up_swap]

/-- not on a side, by its box -/
theorem off_box {s e p : Int × Int} (h : p.1 < min s.1 e.1 ∨ max s.1 e.1 < p.1 ∨ p.2 < min s.2 e.2 ∨ max s.2 e.2 < p.2) : onSegI s e p = false := by
  unfold onSegI
  rcases h with h | h | h | h
  · rw [decide_eq_false (show ¬ min s.1 e.1 ≤ p.1 by omega)]; simp
  · rw [decide_eq_false (show ¬ p.1 ≤ max s.1 e.1 by omega)]; simp
  · rw [decide_eq_false (show ¬ min s.2 e.2 ≤ p.2 by omega)]; simp
  · rw [decide_eq_false (show ¬ p.2 ≤ max s.2 e.2 by omega)]; simp
theorem off_cross {s e p : Int × Int} (h : crossP s e p ≠ 0) : onSegI s e p = false := by
  unfold onSegI
  rw [decide_eq_false (show ¬ crossI s.1 s.2 e.1 e.2 p.1 p.2 = 0 from h)]; simp
theorem on_all {s e p : Int × Int} (h : crossP s e p = 0) (h1 : min s.1 e.1 ≤ p.1) (h2 : p.1 ≤ max s.1 e.1) (h3 : min s.2 e.2 ≤ p.2) (h4 : p.2 ≤ max s.2 e.2) : upB s e p = false ∧ onSegI s e p = true := by
  have : onSegI s e p = true := by
    unfold onSegI
    rw [decide_eq_true (show crossI s.1 s.2 e.1 e.2 p.1 p.2 = 0 from h), decide_eq_true h1, decide_eq_true h2, decide_eq_true h3, decide_eq_true h4]; rfl
  unfold upB
  rw [this]; exact ⟨by simp, rfl⟩
theorem no_x {s e p : Int × Int} (ho : onSegI s e p = false) (hse : s.1 ≤ e.1) (h : p.1 < s.1 ∨ e.1 ≤ p.1) : upB s e p = false ∧ onSegI s e p = false := by
  refine ⟨?_, ho⟩
  unfold upB upI
  rcases h with h | h
  · rw [decide_eq_false (show ¬ s.1 ≤ p.1 by omega), decide_eq_false (show ¬ e.1 ≤ p.1 by omega)]; rfl
  · rw [decide_eq_false (show ¬ p.1 < e.1 by omega), decide_eq_false (show ¬ p.1 < s.1 by omega)]; simp
theorem in_x {s e p : Int × Int} (h1 : s.1 ≤ p.1) (h2 : p.1 < e.1) : (crossP s e p < 0 → upB s e p = true ∧ onSegI s e p = false) ∧ (0 < crossP s e p → upB s e p = false ∧ onSegI s e p = false) := by
  refine ⟨fun h => ?_, fun h => ?_⟩
  · have ho := off_cross (s := s) (e := e) (p := p) (by omega)
    refine ⟨?_, ho⟩
    unfold upB upI
    rw [ho, decide_eq_true h1, decide_eq_true h2, decide_eq_true h]; rfl
  · have ho := off_cross (s := s) (e := e) (p := p) (by omega)
    refine ⟨?_, ho⟩
    unfold upB upI
    rw [decide_eq_false (show ¬ crossP s e p < 0 by omega), decide_eq_false (show ¬ e.1 ≤ p.1 by omega)]; simp

theorem v_out {s e p : Int × Int} (hse : s.1 ≤ e.1) (h : p.1 < s.1 ∨ e.1 < p.1) : upB s e p = false ∧ onSegI s e p = false := no_x (off_box (by omega)) hse (by omega)
theorem v_end {s e p : Int × Int} (hse : s.1 ≤ e.1) (h1 : p.1 = s.1) (h2 : p.2 = s.2) : upB s e p = false ∧ onSegI s e p = true :=
  on_all (by rw [cross_eq, h1, h2]; simp) (by omega) (by omega) (by omega) (by omega)
theorem v_upr {s e p : Int × Int} (hse : s.1 = e.1) (h1 : p.1 = s.1) (h2 : min s.2 e.2 ≤ p.2) (h3 : p.2 ≤ max s.2 e.2) : upB s e p = false ∧ onSegI s e p = true :=
  on_all (by rw [cross_eq, h1, hse]; simp) (by omega) (by omega) h2 h3
theorem v_upr_no {s e p : Int × Int} (hse : s.1 = e.1) (h1 : p.1 = s.1) (h : p.2 < min s.2 e.2 ∨ max s.2 e.2 < p.2) : upB s e p = false ∧ onSegI s e p = false := no_x (off_box (by omega)) (by omega) (by omega)
theorem v_at {s e p : Int × Int} (hse : s.1 < e.1) (h1 : p.1 = s.1) : (p.2 < s.2 → upB s e p = true ∧ onSegI s e p = false) ∧ (s.2 < p.2 → upB s e p = false ∧ onSegI s e p = false) := by
  have hc : crossP s e p = (p.2 - s.2) * (e.1 - s.1) := by rw [cross_eq, h1]; grind
  have hs := sgn_up (p.2 - s.2) (e.1 - s.1) (by omega)
  have hd := sgn_up (-(p.2 - s.2)) (e.1 - s.1) (by omega)
  rw [Int.neg_mul] at hd
  exact ⟨fun h => (in_x (by omega) (by omega)).1 (by rw [hc]; omega), fun h => (in_x (by omega) (by omega)).2 (by rw [hc]; omega)⟩
theorem v_end2 {s e p : Int × Int} (hse : s.1 ≤ e.1) (h1 : p.1 = e.1) (h2 : p.2 = e.2) : upB s e p = false ∧ onSegI s e p = true :=
  on_all (by rw [cross_eq2, h1, h2]; simp) (by omega) (by omega) (by omega) (by omega)
theorem v_end2_no {s e p : Int × Int} (hse : s.1 < e.1) (h1 : p.1 = e.1) (h2 : p.2 ≠ e.2) : upB s e p = false ∧ onSegI s e p = false := by
  refine no_x (off_cross ?_) (by omega) (by omega)
  have hc : crossP s e p = (p.2 - e.2) * (e.1 - s.1) := by rw [cross_eq2, h1]; grind
  have hs := sgn_up (p.2 - e.2) (e.1 - s.1) (by omega)
  have hd := sgn_up (-(p.2 - e.2)) (e.1 - s.1) (by omega)
  rw [Int.neg_mul] at hd
  rw [hc]; omega
theorem v_high {s e p : Int × Int} (h1 : s.1 < p.1) (h2 : p.1 < e.1) (h3 : s.2 < p.2) (h4 : e.2 < p.2) : upB s e p = false ∧ onSegI s e p = false := by
  refine (in_x (by omega) h2).2 ?_
  rcases Int.le_total e.2 s.2 with c | c
  · rw [cross_eq]
    have := Int.mul_pos (show 0 < e.1 - s.1 by omega) (show 0 < p.2 - s.2 by omega)
    have := Int.mul_nonneg (show 0 ≤ s.2 - e.2 by omega) (show 0 ≤ p.1 - s.1 by omega)
    have e3 : (e.2 - s.2) * (p.1 - s.1) = -((s.2 - e.2) * (p.1 - s.1)) := by grind
    omega
  · rw [cross_eq2]
    have := Int.mul_pos (show 0 < e.1 - s.1 by omega) (show 0 < p.2 - e.2 by omega)
    have := Int.mul_nonneg (show 0 ≤ e.2 - s.2 by omega) (show 0 ≤ e.1 - p.1 by omega)
    omega
theorem v_low {s e p : Int × Int} (h1 : s.1 < p.1) (h2 : p.1 < e.1) (h3 : p.2 < s.2) (h4 : p.2 < e.2) : upB s e p = true ∧ onSegI s e p = false := by
  refine (in_x (by omega) h2).1 ?_
  rcases Int.le_total s.2 e.2 with c | c
  · rw [cross_eq]
    have := Int.mul_pos (show 0 < e.1 - s.1 by omega) (show 0 < s.2 - p.2 by omega)
    have e2 : (e.1 - s.1) * (p.2 - s.2) = -((e.1 - s.1) * (s.2 - p.2)) := by grind
    have := Int.mul_nonneg (show 0 ≤ e.2 - s.2 by omega) (show 0 ≤ p.1 - s.1 by omega)
    omega
  · rw [cross_eq2]
    have := Int.mul_pos (show 0 < e.1 - s.1 by omega) (show 0 < e.2 - p.2 by omega)
    have e2 : (e.1 - s.1) * (p.2 - e.2) = -((e.1 - s.1) * (e.2 - p.2)) := by grind
    have := Int.mul_nonneg (show 0 ≤ s.2 - e.2 by omega) (show 0 ≤ e.1 - p.1 by omega)
    have e3 : (e.2 - s.2) * (e.1 - p.1) = -((s.2 - e.2) * (e.1 - p.1)) := by grind
    omega
theorem v_mid {s e p : Int × Int} (h1 : s.1 < p.1) (h2 : p.1 < e.1) (h3 : min s.2 e.2 ≤ p.2) (h4 : p.2 ≤ max s.2 e.2) :
    ((p.2 - s.2) * (e.1 - s.1) < (e.2 - s.2) * (p.1 - s.1) → upB s e p = true ∧ onSegI s e p = false) ∧ ((p.2 - s.2) * (e.1 - s.1) = (e.2 - s.2) * (p.1 - s.1) → upB s e p = false ∧ onSegI s e p = true) ∧
    ((e.2 - s.2) * (p.1 - s.1) < (p.2 - s.2) * (e.1 - s.1) → upB s e p = false ∧ onSegI s e p = false) := by
  have hc : crossP s e p = (p.2 - s.2) * (e.1 - s.1) - (e.2 - s.2) * (p.1 - s.1) := by rw [cross_eq, Int.mul_comm (e.1 - s.1)]
  exact ⟨fun h => (in_x (by omega) h2).1 (by omega), fun h => on_all (by omega) (by omega) (by omega) h3 h4, fun h => (in_x (by omega) h2).2 (by omega)⟩

/-! the number next to a whole one -/
theorem neg_all : (List.range 2001).all (fun i => negF (fl ((i : Int) - 1000)) == decide (i < 1000)) = true := by decide +kernel
theorem fl_neg {n : Int} (h1 : -1000 ≤ n) (h2 : n ≤ 1000) : negF (fl n) = decide (n < 0) := by
  have ha := List.all_eq_true.1 neg_all (n + 1000).toNat (List.mem_range.2 (by omega))
  rw [show (((n + 1000).toNat : Int) - 1000) = n by omega, beq_iff_eq] at ha
  rw [ha]; exact decide_eq_decide.2 (by omega)
theorem fl_ne {n : Int} (h1 : -1000 ≤ n) (h2 : n ≤ 1000) (h0 : n ≠ 0) : fl n ≠ 0 := by
  intro h
  have := isV_unique (h ▸ fl_isV (n := n) (by omega)) zero_isV
  exact h0 (Rat.intCast_inj.1 this)
theorem next_lt {q x : Nat} {n m : Int} {δ : Rat} (hq : IsV q ((n : Rat) + δ)) (hx : IsV x (m : Rat)) (h0 : 0 < δ) (h1 : δ ≤ 1 / 1000000000) : ltF q x = decide (n < m) ∧ gtF q x = decide (m ≤ n) := by
  rw [ltF_isV hq hx, gtF_isV hq hx]
  have e1 : ((1 : Int) : Rat) = 1 := rfl
  refine ⟨decide_eq_decide.2 ⟨fun h => ?_, fun h => ?_⟩, decide_eq_decide.2 ⟨fun h => ?_, fun h => ?_⟩⟩
  · by_cases c : n < m
    · exact c
    · have := int_le (show m ≤ n by omega)
      exfalso; grind
  · have := int_le (show n + 1 ≤ m by omega)
    rw [Rat.intCast_add, e1] at this
    grind
  · by_cases c : m ≤ n
    · exact c
    · have := int_le (show n + 1 ≤ m by omega)
      rw [Rat.intCast_add, e1] at this
      exfalso; grind
  · have := int_le h
    grind
theorem inf_more {d : Nat} {q : Rat} (hd : IsV d q) : gtF infW d = true ∧ eqF d infW = false := by
  obtain ⟨_, s, m, e, h, _⟩ := hd
  have r1 : double.read infW = .infinity false := by decide +kernel
  have o1 : FloatKind.f64.format.order infW d = some .gt := by
    show (double.read infW).order (double.read d) = _
    rw [r1, h]; rfl
  have o2 : FloatKind.f64.format.order d infW = some .lt := by
    show (double.read d).order (double.read infW) = _
    rw [r1, h]; rfl
  unfold gtF eqF
  rw [o1, o2]
  exact ⟨rfl, rfl⟩
/-- the words of a whole point -/
structure PtW (u v : Nat) (p : Int × Int) : Prop extends PtV u v p where
  fx : u = fl p.1
  fy : v = fl p.2
end Go.Proofs.YtohidpmkoehmcaaGreatDoor
