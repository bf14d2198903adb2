/-
  Lists of points that a call makes: impl.pointsOf, impl.listOf.
-/
import Derived.Test.YtobdohhabgnjiaaGreatDoorPts
import Derived.OwnWalk
import Derived.Laws.AppendOwn
import Derived.Laws.OwnMore
import Derived.Lib.Hide
set_option linter.all false
namespace Go.Proofs.YtobdohhabgnjiaaGreatDoor
open PubFl Go.RowKit

attribute [local go_sem] cell_ext frozen_ext ext_setCell cell_store size_ext_eq lt_p0 lt_p1 lt_p2 lt_p3 lt_p4 lt_p5 lt_p6 lt_p7 lt_p8 lt_p9 lt_p10 lt_p11 lt_p12 lt_p13 lt_p14 lt_p15 lt_p16 lt_p17 lt_p18 lt_p19 lt_p20 lt_p21 lt_p22 lt_p23 lt_p24 lt_p25 lt_p26 lt_p27 lt_p28 lt_p29 lt_p30 lt_p31 lt_p32 lt_q1 lt_q2 lt_q3 lt_q4 lt_q5 lt_q6 lt_q7 lt_q8 lt_q9 lt_q10 lt_q11 lt_q12 lt_q13 lt_q14 lt_q15 lt_q16 lt_q17 lt_q18 lt_q19 lt_q20 lt_q21 lt_q22 lt_q23 lt_q24 lt_q25 lt_q26 lt_q27 lt_q28 lt_q29 lt_q30 lt_q31 lt_q32 run_fop run_store_float
attribute [local go_sem high] cmp_eql cmp_neq cmp_lss cmp_leq cmp_gtr cmp_geq

/-- the cells of points -/
def cellsOf (ps : List (Nat × Nat)) : List Value := ps.flatMap fun p => [.float .f64 p.1, .float .f64 p.2]
theorem cellsOf_snoc (ps : List (Nat × Nat)) (p : Nat × Nat) : cellsOf (ps ++ [p]) = cellsOf ps ++ [.float .f64 p.1, .float .f64 p.2] := by
  unfold cellsOf; rw [List.flatMap_append]; rfl
theorem cellsOf_length (ps : List (Nat × Nat)) : (cellsOf ps).length = ps.length * 2 := by
  induction ps with
  | nil => rfl
  | cons p ps ih =>
    show ([Value.float .f64 p.1, .float .f64 p.2] ++ cellsOf ps).length = _
    rw [List.length_append, ih]; simp; omega
theorem cellsOf_get (ps : List (Nat × Nat)) (i : Nat) (h : i < ps.length) : (cellsOf ps)[i * 2]? = some (.float .f64 (ps[i]'h).1) ∧ (cellsOf ps)[i * 2 + 1]? = some (.float .f64 (ps[i]'h).2) := by
  induction ps generalizing i with
  | nil => simp at h
  | cons p ps ih =>
    have e : cellsOf (p :: ps) = .float .f64 p.1 :: .float .f64 p.2 :: cellsOf ps := rfl
    rw [e]
    cases i with
    | zero => exact ⟨rfl, rfl⟩
    | succ i =>
      have := ih i (by simpa using h)
      rw [show (i + 1) * 2 = i * 2 + 1 + 1 by omega]
      simpa using this

/-- a slice that came in holds points -/
def PtsIn (w : World) (a : Option Addr) (ps : List (Nat × Nat)) : Prop := ps = [] ∨ ∃ b off, a = some ⟨b, off, none⟩ ∧ b < w.heap.size ∧ PtsAt w b off ps
/-- a slice that the call made holds points -/
def PtsNew (w w' : World) (e : TypeId) (v : Value) (ps : List (Nat × Nat)) : Prop := w'.ownsRow w.heap.size e 2 v ps.length (cellsOf ps)
def RetO (w : World) (e : TypeId) (ps : List (Nat × Nat)) (en : Ending) (w' : World) : Prop := ∃ v u, en = .returned v ∧ w' = ext w u ∧ PtsNew w w' e v ps
theorem RetO.mk {w w' : World} {e : TypeId} {ps : List (Nat × Nat)} {en : Ending} {v : Value} (he : en = .returned v) (h : Kp w w') (hp : PtsNew w w' e v ps) : RetO w e ps en w' :=
  ⟨v, w', he, ext_of h, hp⟩
theorem PtsNew.form {w w' : World} {e : TypeId} {v : Value} {ps : List (Nat × Nat)} (h : PtsNew w w' e v ps) (hn : 0 < ps.length) :
    ∃ g cap, v = .slice (some ⟨g, 0, none⟩) ps.length cap ∧ w.heap.size ≤ g ∧ g < w'.heap.size ∧ ps.length ≤ cap ∧ cap ≤ maxLen ∧ PtsAt w' g 0 ps := by
  obtain ⟨hl, h⟩ := h
  rcases h with ⟨_, h0⟩ | ⟨g, cap, cur, hv, hg, hh, h1, h2, h3, h4⟩
  · omega
  · refine ⟨g, cap, hv, hg, ?_, h1, h2, fun i hi => ?_⟩
    · rcases Nat.lt_or_ge g w'.heap.size with c | c
      · exact c
      · rw [Array.getElem?_eq_none c] at hh; cases hh
    · obtain ⟨g1, g2⟩ := cellsOf_get ps i hi
      have hc : ∀ j, j < ps.length * 2 → w'.cell? ⟨g, 0 + j, none⟩ = (cellsOf ps)[j]? := by
        intro j hj
        rw [← h4, Nat.zero_add]
        unfold World.cell?
        simp only [hh]
        rw [List.getElem?_take, if_pos hj]
        simp
      rw [Nat.zero_add] at *
      have e1 := hc (i * 2) (by omega)
      have e2 := hc (i * 2 + 1) (by omega)
      rw [Nat.zero_add] at e1 e2
      exact ⟨e1.trans g1, e2.trans g2⟩
theorem PtsNew.empty {w w' : World} {e : TypeId} {v : Value} {ps : List (Nat × Nat)} (h : PtsNew w w' e v ps) : ∃ a cap, v = .slice a ps.length cap := by
  obtain ⟨hl, h⟩ := h
  rcases h with ⟨h, h0⟩ | ⟨g, cap, cur, hv, _⟩
  · exact ⟨none, 0, by rw [h, h0]⟩
  · exact ⟨_, _, hv⟩

theorem infoOPt : (Tryz.prog.info? 88).map (fun i => (i.zero, i.size, i.bytes)) = some (some (.agg #[.float .f64 0, .float .f64 0]), 2, 16) := by kernel_rfl
theorem infoPt : (Tryz.prog.info? 65).map (fun i => (i.zero, i.size, i.bytes)) = some (some (.agg #[.float .f64 0, .float .f64 0]), 2, 16) := by kernel_rfl

def Bits (ps : List (Nat × Nat)) : Prop := ∀ (i : Nat) (h : i < ps.length), (ps[i]'h).1 < 2 ^ 64 ∧ (ps[i]'h).2 < 2 ^ 64
end Go.Proofs.YtobdohhabgnjiaaGreatDoor
