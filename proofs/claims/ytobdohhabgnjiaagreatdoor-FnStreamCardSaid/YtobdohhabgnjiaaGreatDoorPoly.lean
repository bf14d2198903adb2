/-
  impl.polygonOf: lists of points in memory as a polygon of the call's own.
-/
import Derived.Test.YtobdohhabgnjiaaGreatDoorLine
set_option linter.all false
namespace Go.Proofs.YtobdohhabgnjiaaGreatDoor
open PubFl Go.RowKit

attribute [local go_sem] cell_ext frozen_ext ext_setCell cell_store size_ext_eq lt_p0 lt_p1 lt_p2 lt_p3 lt_p4 lt_p5 lt_p6 lt_p7 lt_p8 lt_p9 lt_p10 lt_p11 lt_p12 lt_p13 lt_p14 lt_p15 lt_p16 lt_p17 lt_p18 lt_p19 lt_p20 lt_p21 lt_p22 lt_p23 lt_p24 lt_p25 lt_p26 lt_p27 lt_p28 lt_p29 lt_p30 lt_p31 lt_p32 lt_q1 lt_q2 lt_q3 lt_q4 lt_q5 lt_q6 lt_q7 lt_q8 lt_q9 lt_q10 lt_q11 lt_q12 lt_q13 lt_q14 lt_q15 lt_q16 lt_q17 lt_q18 lt_q19 lt_q20 lt_q21 lt_q22 lt_q23 lt_q24 lt_q25 lt_q26 lt_q27 lt_q28 lt_q29 lt_q30 lt_q31 lt_q32 run_fop run_store_float
attribute [local go_sem high] cmp_eql cmp_neq cmp_lss cmp_leq cmp_gtr cmp_geq

/-- lists of points lie in memory from here on -/
def ListsAt (w : World) (L off : Nat) (lss : List (List (Nat × Nat))) : Prop :=
  ∀ (i : Nat) (h : i < lss.length), ∃ a cap, w.cell? ⟨L, off + i, none⟩ = some (.slice a (lss[i]'h).length cap) ∧ PtsIn w a (lss[i]'h)
theorem PtsIn.kp' {w w' : World} {a : Option Addr} {ps : List (Nat × Nat)} (hs : PtsIn w a ps) (hk : Kp w w') : PtsIn w' a ps := by
  rcases hs with h | ⟨b, off, rfl, hb, hpt⟩
  · exact .inl h
  · exact .inr ⟨b, off, rfl, Nat.lt_of_lt_of_le hb hk.size, hpt.kp hb hk⟩
theorem ListsAt.kp {w w' : World} {L off : Nat} {lss : List (List (Nat × Nat))} (h : ListsAt w L off lss) (hL : L < w.heap.size) (k : Kp w w') : ListsAt w' L off lss := fun i hi => by
  obtain ⟨a, cap, hc, hp⟩ := h i hi
  exact ⟨a, cap, Kp.cell k hc hL, hp.kp' k⟩
theorem own_kp {w w' : World} {base : Nat} {e : TypeId} {size : Nat} {v : Value} {n : Nat} {xs : List Value} (h : w.ownsRow base e size v n xs) (k : Kp w w') : w'.ownsRow base e size v n xs := by
  obtain ⟨hl, h⟩ := h
  refine ⟨hl, ?_⟩
  rcases h with h | ⟨g, cap, cur, hv, hb, hg, h1⟩
  · exact .inl h
  · refine .inr ⟨g, cap, cur, hv, hb, ?_, h1⟩
    have hlt : g < w.heap.size := by
      rcases Nat.lt_or_ge g w.heap.size with c | c
      · exact c
      · rw [Array.getElem?_eq_none c] at hg; cases hg
    rw [k.block g hlt]; exact hg
theorem own_base {w : World} {base base' : Nat} {e : TypeId} {size : Nat} {v : Value} {n : Nat} {xs : List Value} (h : w.ownsRow base e size v n xs) (hb : base' ≤ base) : w.ownsRow base' e size v n xs := by
  obtain ⟨hl, h⟩ := h
  refine ⟨hl, ?_⟩
  rcases h with h | ⟨g, cap, cur, hv, hb', h1⟩
  · exact .inl h
  · exact .inr ⟨g, cap, cur, hv, Nat.le_trans hb hb', h1⟩

end Go.Proofs.YtobdohhabgnjiaaGreatDoor
