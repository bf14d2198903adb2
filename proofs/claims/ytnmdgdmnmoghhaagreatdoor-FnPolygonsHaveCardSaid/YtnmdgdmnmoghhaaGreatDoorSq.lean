/-
  laws.square in use; one point like another.
-/
import Derived.Test.YtnmdgdmnmoghhaaGreatDoorClosed
namespace Go.Proofs.YtnmdgdmnmoghhaaGreatDoor
open PubFl Go.RowKit

attribute [local go_sem] cell_ext frozen_ext ext_setCell cell_store size_ext_eq lt_p0 lt_p1 lt_p2 lt_p3 lt_p4 lt_p5 lt_p6 lt_p7 lt_p8 lt_p9 lt_p10 lt_p11 lt_p12 lt_p13 lt_p14 lt_p15 lt_p16 lt_p17 lt_p18 lt_p19 lt_p20 lt_p21 lt_p22 lt_p23 lt_p24 lt_p25 lt_p26 lt_p27 lt_p28 lt_p29 lt_p30 lt_p31 lt_p32 lt_q1 lt_q2 lt_q3 lt_q4 lt_q5 lt_q6 lt_q7 lt_q8 lt_q9 lt_q10 lt_q11 lt_q12 lt_q13 lt_q14 lt_q15 lt_q16 lt_q17 lt_q18 lt_q19 lt_q20 lt_q21 lt_q22 lt_q23 lt_q24 lt_q25 lt_q26 lt_q27 lt_q28 lt_q29 lt_q30 lt_q31 lt_q32 run_fop run_store_float
attribute [local go_sem high] cmp_eql cmp_neq cmp_lss cmp_leq cmp_gtr cmp_geq

theorem wrap_in (n : Int) (h0 : -9223372036854775808 ≤ n) (h1 : n ≤ 9223372036854775807) : IntKind.i64.wrap n = n := by
  rw [← wrap64_i64]
  unfold RowKit.wrap64
  omega
theorem ptsAt_one {w : World} {b x y : Nat} (c0 : w.cell? ⟨b, 0, none⟩ = some (.float .f64 x)) (c1 : w.cell? ⟨b, 1, none⟩ = some (.float .f64 y)) : PtsAt w b 0 [(x, y)] := by
  intro i hi
  have : i = 0 := by simp at hi; exact hi
  subst this
  exact ⟨c0, c1⟩
theorem sq5_in {w : World} {v : Value} {w' : World} {e : TypeId} (h : PtsNew w w' e v sq5) : ∃ g cap, v = .slice (some ⟨g, 0, none⟩) 5 cap ∧ PtsIn w' (some ⟨g, 0, none⟩) sq5 := by
  obtain ⟨g, cap', hv, _, hg2, _, _, hpt⟩ := h.form (by decide)
  exact ⟨g, cap', hv, .inr ⟨g, 0, rfl, hg2, hpt⟩⟩
theorem sq5r_in {w : World} {v : Value} {w' : World} {e : TypeId} (h : PtsNew w w' e v sq5.reverse) : ∃ g cap, v = .slice (some ⟨g, 0, none⟩) 5 cap ∧ PtsIn w' (some ⟨g, 0, none⟩) sq5.reverse := by
  obtain ⟨g, cap', hv, _, hg2, _, _, hpt⟩ := h.form (by decide)
  exact ⟨g, cap', hv, .inr ⟨g, 0, rfl, hg2, hpt⟩⟩
theorem sq5_closed : closedB sq5 = true := by kernel_rfl
theorem sq5_rev : closedB sq5.reverse = true := by kernel_rfl
end Go.Proofs.YtnmdgdmnmoghhaaGreatDoor
