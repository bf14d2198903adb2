/-
  Lists of points in memory; spec.BoxOf.
-/
import Derived.Test.YtobdohhabgnjiaaGreatDoorUnion
import Derived.Deep.DeepCutAuto
import Derived.Lib.Hide
set_option linter.all false
namespace Go.Proofs.YtobdohhabgnjiaaGreatDoor
open PubFl Go.RowKit

attribute [local go_sem] cell_ext frozen_ext ext_setCell cell_store size_ext_eq lt_p0 lt_p1 lt_p2 lt_p3 lt_p4 lt_p5 lt_p6 lt_p7 lt_p8 lt_p9 lt_p10 lt_p11 lt_p12 lt_p13 lt_p14 lt_p15 lt_p16 lt_p17 lt_p18 lt_p19 lt_p20 lt_p21 lt_p22 lt_p23 lt_p24 lt_p25 lt_p26 lt_p27 lt_p28 lt_p29 lt_p30 lt_p31 lt_p32 lt_q1 lt_q2 lt_q3 lt_q4 lt_q5 lt_q6 lt_q7 lt_q8 lt_q9 lt_q10 lt_q11 lt_q12 lt_q13 lt_q14 lt_q15 lt_q16 lt_q17 lt_q18 lt_q19 lt_q20 lt_q21 lt_q22 lt_q23 lt_q24 lt_q25 lt_q26 lt_q27 lt_q28 lt_q29 lt_q30 lt_q31 lt_q32 run_fop run_store_float
attribute [local go_sem high] cmp_eql cmp_neq cmp_lss cmp_leq cmp_gtr cmp_geq

/-- a list of points lies in memory from here on -/
def PtsAt (w : World) (b off : Nat) (ps : List (Nat × Nat)) : Prop :=
  ∀ (i : Nat) (h : i < ps.length), w.cell? ⟨b, off + i * 2, none⟩ = some (.float .f64 (ps[i]'h).1) ∧ w.cell? ⟨b, off + i * 2 + 1, none⟩ = some (.float .f64 (ps[i]'h).2)
theorem PtsAt.kp {w w' : World} {b off : Nat} {ps : List (Nat × Nat)} (h : PtsAt w b off ps) (hb : b < w.heap.size) (k : Kp w w') : PtsAt w' b off ps :=
  fun i hi => ⟨(Below.cell (p := ⟨b, off + i * 2, none⟩) k hb).trans (h i hi).1, (Below.cell (p := ⟨b, off + i * 2 + 1, none⟩) k hb).trans (h i hi).2⟩

/-- a cell, in a world that keeps memory -/
theorem Kp.cell {w w' : World} (k : Kp w w') {b o : Nat} {v : Value} (h : w.cell? ⟨b, o, none⟩ = some v) (hb : b < w.heap.size) : w'.cell? ⟨b, o, none⟩ = some v := (Below.cell (p := ⟨b, o, none⟩) k hb).trans h

/-- a new box g holds a point -/
structure NewPt (w wr : World) (g x y : Nat) : Prop where
  lo : w.heap.size ≤ g
  hi : g < wr.heap.size
  c0 : wr.cell? ⟨g, 0, none⟩ = some (.float .f64 x)
  c1 : wr.cell? ⟨g, 1, none⟩ = some (.float .f64 y)
  z0 : wr.frozen? ⟨g, 0, none⟩ = false
  z1 : wr.frozen? ⟨g, 1, none⟩ = false
theorem NewPt.kp {w wr w' : World} {g x y : Nat} (h : NewPt w wr g x y) (k : Kp wr w') : NewPt w w' g x y :=
  ⟨h.lo, Nat.lt_of_lt_of_le h.hi k.size, Kp.cell k h.c0 h.hi, Kp.cell k h.c1 h.hi, (Below.frozen (p := ⟨g, 0, none⟩) k h.hi).trans h.z0, (Below.frozen (p := ⟨g, 1, none⟩) k h.hi).trans h.z1⟩
theorem NewPt.store {w wr : World} {g x y : Nat} (h : NewPt w wr g x y) (a b : Nat) : NewPt w ((wr.setCell ⟨g, 0, none⟩ (.float .f64 a)).setCell ⟨g, 1, none⟩ (.float .f64 b)) g a b := by
  have e1 : (wr.setCell ⟨g, 0, none⟩ (.float .f64 a)).cell? ⟨g, 1, none⟩ = some (.float .f64 y) := by
    rw [World.cell?_setCell_other _ _ _ _ (by simp)]; exact h.c1
  refine ⟨h.lo, by simpa using h.hi, ?_, ?_, ?_, ?_⟩
  · rw [World.cell?_setCell_other _ _ _ _ (by simp)]
    exact World.cell?_setCell_same _ _ _ h.c0
  · exact World.cell?_setCell_same _ _ _ e1
  · simpa using h.z0
  · simpa using h.z1
theorem NewPt.other {w wr : World} {g x y k : Nat} (h : NewPt w wr g x y) (hk : k ≠ g) (a b : Value) : NewPt w ((wr.setCell ⟨k, 0, none⟩ a).setCell ⟨k, 1, none⟩ b) g x y := by
  have n0 : ∀ i j, (⟨k, i, none⟩ : Addr) ≠ ⟨g, j, none⟩ := fun i j e => hk (by cases e; rfl)
  refine ⟨h.lo, by simpa using h.hi, ?_, ?_, by simpa using h.z0, by simpa using h.z1⟩
  · rw [World.cell?_setCell_other _ _ _ _ (n0 1 0), World.cell?_setCell_other _ _ _ _ (n0 0 0)]; exact h.c0
  · rw [World.cell?_setCell_other _ _ _ _ (n0 1 1), World.cell?_setCell_other _ _ _ _ (n0 0 1)]; exact h.c1
theorem frozen_new (w : World) (c : Array Value) (t : TypeId) (i : Nat) : (w.alloc (.cells c t)).frozen? ⟨w.heap.size, i, none⟩ = false := by
  unfold World.frozen? World.alloc
  simp
theorem NewPt.at {w w0 : World} {n : Nat} (hn : n = w.heap.size) (x y : Nat) (t : TypeId) (h : w0.heap.size ≤ w.heap.size) : NewPt w0 (w.alloc (.cells #[.float .f64 x, .float .f64 y] t)) n x y := by
  subst hn
  exact ⟨h, by simp, by simp, by simp, frozen_new _ _ _ _, frozen_new _ _ _ _⟩
theorem NewPt.alloc {w wr : World} {g x y : Nat} (h : NewPt w wr g x y) (o : Obj) : NewPt w (wr.alloc o) g x y := h.kp ((Kp.refl _).alloc o)
theorem NewPt.ext {w wr : World} {g x y : Nat} (h : NewPt w wr g x y) (u : World) : NewPt w (ext wr u) g x y := h.kp ((Kp.refl _).ext u)
theorem NewPt.drew {w wr : World} {g x y : Nat} (h : NewPt w wr g x y) : NewPt w wr.drew g x y := h.kp (Kp.refl _).drew
theorem NewPt.drewN {w wr : World} {g x y : Nat} (h : NewPt w wr g x y) (n : Nat) : NewPt w (wr.drewN n) g x y := h.kp ((Kp.refl _).drewN n)
theorem NewPt.new (w : World) (x y : Nat) (t : TypeId) {w0 : World} (h : w0.heap.size ≤ w.heap.size) : NewPt w0 (w.alloc (.cells #[.float .f64 x, .float .f64 y] t)) w.heap.size x y :=
  ⟨h, by simp, by simp, by simp, frozen_new _ _ _ _, frozen_new _ _ _ _⟩

end Go.Proofs.YtobdohhabgnjiaaGreatDoor
