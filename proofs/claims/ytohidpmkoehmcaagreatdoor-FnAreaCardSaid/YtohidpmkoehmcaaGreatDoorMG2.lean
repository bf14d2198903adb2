/-
  Boxes that are extended and joined.
  Lists of points in memory; spec.BoxOf.
-/
import Derived.Test.YtohidpmkoehmcaaGreatDoorMG1
import Derived.Test.YtohidpmkoehmcaaGreatDoorWt
import Derived.Test.YtohidpmkoehmcaaGreatDoorEq
import Derived.Deep.DeepCutAuto
import Derived.Lib.Hide
set_option linter.all false
namespace Go.Proofs.YtohidpmkoehmcaaGreatDoor
open PubFl

attribute [local go_sem] cell_ext frozen_ext ext_setCell cell_store size_ext_eq lt_p0 lt_p1 lt_p2 lt_p3 lt_p4 lt_p5 lt_p6 lt_p7 lt_p8 lt_p9 lt_p10 lt_p11 lt_p12 lt_p13 lt_p14 lt_p15 lt_p16 lt_p17 lt_p18 lt_p19 lt_p20 lt_p21 lt_p22 lt_p23 lt_p24 lt_p25 lt_p26 lt_p27 lt_p28 lt_p29 lt_p30 lt_p31 lt_p32 lt_q1 lt_q2 lt_q3 lt_q4 lt_q5 lt_q6 lt_q7 lt_q8 lt_q9 lt_q10 lt_q11 lt_q12 lt_q13 lt_q14 lt_q15 lt_q16 lt_q17 lt_q18 lt_q19 lt_q20 lt_q21 lt_q22 lt_q23 lt_q24 lt_q25 lt_q26 lt_q27 lt_q28 lt_q29 lt_q30 lt_q31 lt_q32 run_fop run_store_float
attribute [local go_sem high] cmp_eql cmp_neq cmp_lss cmp_leq cmp_gtr cmp_geq

theorem min_c (x y : Nat) (w : World) : Calls Tryz.prog 34 #[.float .f64 x, .float .f64 y] w (Ret w (.float .f64 (minF x y))) := by
  have h1 := x_min
  go_enter Tryz.func34, Tryz.ntmps34
  go_wp2
  go_ret
  exact Ret.mk rfl (by repeat (first | (with_reducible exact Kp.refl _) | (with_reducible assumption) | (with_reducible apply Kp.ext) | (with_reducible apply Kp.alloc) | (with_reducible apply Kp.drew) | (with_reducible apply Kp.drewN) | (with_reducible refine Kp.setCell ?_ (by first | (dsimp only; omega) | (simp; omega) | (simp; done) | (simp [size_ext_eq]; omega)) _)))
theorem max_c (x y : Nat) (w : World) : Calls Tryz.prog 35 #[.float .f64 x, .float .f64 y] w (Ret w (.float .f64 (maxF x y))) := by
  have h1 := x_max
  go_enter Tryz.func35, Tryz.ntmps35
  go_wp2
  go_ret
  exact Ret.mk rfl (by repeat (first | (with_reducible exact Kp.refl _) | (with_reducible assumption) | (with_reducible apply Kp.ext) | (with_reducible apply Kp.alloc) | (with_reducible apply Kp.drew) | (with_reducible apply Kp.drewN) | (with_reducible refine Kp.setCell ?_ (by first | (dsimp only; omega) | (simp; omega) | (simp; done) | (simp [size_ext_eq]; omega)) _)))

/-- a box, extended by a point -/
structure Box where
  ax : Nat
  ay : Nat
  bx : Nat
  b_y : Nat
def Box.v (b : Box) : Value := .agg #[.float .f64 b.ax, .float .f64 b.ay, .float .f64 b.bx, .float .f64 b.b_y]
def Box.extend (b : Box) (px py : Nat) : Box := if hasB b.ax b.ay b.bx b.b_y px py = true then b else ⟨minF b.ax px, minF b.ay py, maxF b.bx px, maxF b.b_y py⟩
def Box.empty (b : Box) : Bool := emptyB b.ax b.ay b.bx b.b_y

theorem extend_in (ax ay bx by' px py : Nat) (w : World) (h1 : emptyB ax ay bx by' = false) (h2 : hasB ax ay bx by' px py = true) :
    Calls Tryz.prog 61 #[.agg #[.float .f64 ax, .float .f64 ay, .float .f64 bx, .float .f64 by'], .agg #[.float .f64 px, .float .f64 py]] w (Ret w (.agg #[.float .f64 ax, .float .f64 ay, .float .f64 bx, .float .f64 by'])) := by
  go_enter Tryz.func61, Tryz.ntmps61
  go_wp2_with (first | (go_at_call 65; (first | (with_reducible refine (Ret.at_ext (isEmpty_c _ _ _ _ _)).mono ?_) | refine (isEmpty_c _ _ _ _ _).mono ?_); rintro e w' ⟨rfl, u, rfl⟩) | (go_at_call 37; (first | (with_reducible refine (Ret.at_ext (contains_c _ _ _ _ _ _ _)).mono ?_) | refine (contains_c _ _ _ _ _ _ _).mono ?_); rintro e w' ⟨rfl, u, rfl⟩))
  exact bodyPost_ret (v := .agg #[.float .f64 ax, .float .f64 ay, .float .f64 bx, .float .f64 by']) (by simp [results, Tryz.results61, go_sem]) rfl (Ret.mk rfl (by repeat (first | (with_reducible exact Kp.refl _) | (with_reducible assumption) | (with_reducible apply Kp.ext) | (with_reducible apply Kp.alloc) | (with_reducible apply Kp.drew) | (with_reducible apply Kp.drewN) | (with_reducible refine Kp.setCell ?_ (by first | (dsimp only; omega) | (simp; omega) | (simp; done) | (simp [size_ext_eq]; omega)) _))))
theorem extend_out (ax ay bx by' px py : Nat) (w : World) (h1 : emptyB ax ay bx by' = false) (h2 : hasB ax ay bx by' px py = false) :
    Calls Tryz.prog 61 #[.agg #[.float .f64 ax, .float .f64 ay, .float .f64 bx, .float .f64 by'], .agg #[.float .f64 px, .float .f64 py]] w (Ret w (.agg #[.float .f64 (minF ax px), .float .f64 (minF ay py), .float .f64 (maxF bx px), .float .f64 (maxF by' py)])) := by
  go_enter Tryz.func61, Tryz.ntmps61
  go_wp2_with (first | (go_at_call 65; (first | (with_reducible refine (Ret.at_ext (isEmpty_c _ _ _ _ _)).mono ?_) | refine (isEmpty_c _ _ _ _ _).mono ?_); rintro e w' ⟨rfl, u, rfl⟩) | (go_at_call 37; (first | (with_reducible refine (Ret.at_ext (contains_c _ _ _ _ _ _ _)).mono ?_) | refine (contains_c _ _ _ _ _ _ _).mono ?_); rintro e w' ⟨rfl, u, rfl⟩))
  first | (with_reducible refine wp_region_ext_tail2 27 ?_ ?_ ?_) | refine wp_region_ext_tail 27 ?_ ?_ ?_
  kernel_rfl
  kernel_rfl
  simp only [List.take_succ_cons, List.take_zero, List.drop_succ_cons, List.drop_zero]
  repeat (go_big_quiet_step (first | (go_at_call 34; exact Ret.quiet (min_c _ _ _)) | (go_at_call 35; exact Ret.quiet (max_c _ _ _))))
  refine wpQuiet_nil ?_
  rintro _ ⟨u, rfl⟩
  go_wp2_with fail
  exact bodyPost_ret (v := .agg #[.float .f64 (minF ax px), .float .f64 (minF ay py), .float .f64 (maxF bx px), .float .f64 (maxF by' py)]) (by simp [results, Tryz.results61, go_sem]) rfl (Ret.mk rfl (by repeat (first | (with_reducible exact Kp.refl _) | (with_reducible assumption) | (with_reducible apply Kp.ext) | (with_reducible apply Kp.alloc) | (with_reducible apply Kp.drew) | (with_reducible apply Kp.drewN) | (with_reducible refine Kp.setCell ?_ (by first | (dsimp only; omega) | (simp; omega) | (simp; done) | (simp [size_ext_eq]; omega)) _))))

theorem extend_c (ax ay bx by' px py : Nat) (w : World) (h1 : emptyB ax ay bx by' = false) :
    Calls Tryz.prog 61 #[.agg #[.float .f64 ax, .float .f64 ay, .float .f64 bx, .float .f64 by'], .agg #[.float .f64 px, .float .f64 py]] w
      (Ret w (.agg #[.float .f64 (Box.extend ⟨ax, ay, bx, by'⟩ px py).ax, .float .f64 (Box.extend ⟨ax, ay, bx, by'⟩ px py).ay, .float .f64 (Box.extend ⟨ax, ay, bx, by'⟩ px py).bx, .float .f64 (Box.extend ⟨ax, ay, bx, by'⟩ px py).b_y])) := by
  cases h2 : hasB ax ay bx by' px py
  · have : Box.extend ⟨ax, ay, bx, by'⟩ px py = ⟨minF ax px, minF ay py, maxF bx px, maxF by' py⟩ := by unfold Box.extend; simp [h2]
    rw [this]
    exact extend_out ax ay bx by' px py w h1 h2
  · have : Box.extend ⟨ax, ay, bx, by'⟩ px py = ⟨ax, ay, bx, by'⟩ := by unfold Box.extend; simp [h2]
    rw [this]
    exact extend_in ax ay bx by' px py w h1 h2

end Go.Proofs.YtohidpmkoehmcaaGreatDoor

set_option linter.all false
namespace Go.Proofs.YtohidpmkoehmcaaGreatDoor
open PubFl Go.RowKit

attribute [local go_sem] cell_ext frozen_ext ext_setCell cell_store size_ext_eq lt_p0 lt_p1 lt_p2 lt_p3 lt_p4 lt_p5 lt_p6 lt_p7 lt_p8 lt_p9 lt_p10 lt_p11 lt_p12 lt_p13 lt_p14 lt_p15 lt_p16 lt_p17 lt_p18 lt_p19 lt_p20 lt_p21 lt_p22 lt_p23 lt_p24 lt_p25 lt_p26 lt_p27 lt_p28 lt_p29 lt_p30 lt_p31 lt_p32 lt_q1 lt_q2 lt_q3 lt_q4 lt_q5 lt_q6 lt_q7 lt_q8 lt_q9 lt_q10 lt_q11 lt_q12 lt_q13 lt_q14 lt_q15 lt_q16 lt_q17 lt_q18 lt_q19 lt_q20 lt_q21 lt_q22 lt_q23 lt_q24 lt_q25 lt_q26 lt_q27 lt_q28 lt_q29 lt_q30 lt_q31 lt_q32 run_fop run_store_float
attribute [local go_sem high] cmp_eql cmp_neq cmp_lss cmp_leq cmp_gtr cmp_geq

/-- a list of points lies in memory from here on -/
def PtsAt (w : World) (b off : Nat) (ps : List (Nat × Nat)) : Prop :=
  ∀ (i : Nat) (h : i < ps.length), w.cell? ⟨b, off + i * 2, none⟩ = some (.float .f64 (ps[i]'h).1) ∧ w.cell? ⟨b, off + i * 2 + 1, none⟩ = some (.float .f64 (ps[i]'h).2)
theorem PtsAt.kp {w w' : World} {b off : Nat} {ps : List (Nat × Nat)} (h : PtsAt w b off ps) (hb : b < w.heap.size) (k : Kp w w') : PtsAt w' b off ps :=
  fun i hi => ⟨(Below.cell (p := ⟨b, off + i * 2, none⟩) k hb).trans (h i hi).1, (Below.cell (p := ⟨b, off + i * 2 + 1, none⟩) k hb).trans (h i hi).2⟩

/-- a cell, in a world that keeps memory -/
theorem Kp.cell {w w' : World} (k : Kp w w') {b o : Nat} {v : Value} (h : w.cell? ⟨b, o, none⟩ = some v) (hb : b < w.heap.size) : w'.cell? ⟨b, o, none⟩ = some v := (Below.cell (p := ⟨b, o, none⟩) k hb).trans h

/-- a new box g holds a point -/
structure NewPt (w wr : World) (g x y : Nat) : Prop where
  lo : w.heap.size ≤ g
  hi : g < wr.heap.size
  c0 : wr.cell? ⟨g, 0, none⟩ = some (.float .f64 x)
  c1 : wr.cell? ⟨g, 1, none⟩ = some (.float .f64 y)
  z0 : wr.frozen? ⟨g, 0, none⟩ = false
  z1 : wr.frozen? ⟨g, 1, none⟩ = false
theorem NewPt.kp {w wr w' : World} {g x y : Nat} (h : NewPt w wr g x y) (k : Kp wr w') : NewPt w w' g x y :=
  ⟨h.lo, Nat.lt_of_lt_of_le h.hi k.size, Kp.cell k h.c0 h.hi, Kp.cell k h.c1 h.hi, (Below.frozen (p := ⟨g, 0, none⟩) k h.hi).trans h.z0, (Below.frozen (p := ⟨g, 1, none⟩) k h.hi).trans h.z1⟩
theorem NewPt.store {w wr : World} {g x y : Nat} (h : NewPt w wr g x y) (a b : Nat) : NewPt w ((wr.setCell ⟨g, 0, none⟩ (.float .f64 a)).setCell ⟨g, 1, none⟩ (.float .f64 b)) g a b := by
  have e1 : (wr.setCell ⟨g, 0, none⟩ (.float .f64 a)).cell? ⟨g, 1, none⟩ = some (.float .f64 y) := by
    rw [World.cell?_setCell_other _ _ _ _ (by simp)]; exact h.c1
  refine ⟨h.lo, by simpa using h.hi, ?_, ?_, ?_, ?_⟩
  · rw [World.cell?_setCell_other _ _ _ _ (by simp)]
    exact World.cell?_setCell_same _ _ _ h.c0
  · exact World.cell?_setCell_same _ _ _ e1
  · simpa using h.z0
  · simpa using h.z1
theorem NewPt.other {w wr : World} {g x y k : Nat} (h : NewPt w wr g x y) (hk : k ≠ g) (a b : Value) : NewPt w ((wr.setCell ⟨k, 0, none⟩ a).setCell ⟨k, 1, none⟩ b) g x y := by
  have n0 : ∀ i j, (⟨k, i, none⟩ : Addr) ≠ ⟨g, j, none⟩ := fun i j e => hk (by cases e; rfl)
  refine ⟨h.lo, by simpa using h.hi, ?_, ?_, by simpa using h.z0, by simpa using h.z1⟩
  · rw [World.cell?_setCell_other _ _ _ _ (n0 1 0), World.cell?_setCell_other _ _ _ _ (n0 0 0)]; exact h.c0
  · rw [World.cell?_setCell_other _ _ _ _ (n0 1 1), World.cell?_setCell_other _ _ _ _ (n0 0 1)]; exact h.c1
theorem Kp.store2 {a w : World} (h : Kp a w) {g : Nat} (hg : a.heap.size ≤ g) (x y : Value) : Kp a ((w.setCell ⟨g, 0, none⟩ x).setCell ⟨g, 1, none⟩ y) := Kp.setCell (Kp.setCell h (p := ⟨g, 0, none⟩) hg x) (p := ⟨g, 1, none⟩) hg y
theorem frozen_new (w : World) (c : Array Value) (t : TypeId) (i : Nat) : (w.alloc (.cells c t)).frozen? ⟨w.heap.size, i, none⟩ = false := by
  unfold World.frozen? World.alloc
  simp
theorem NewPt.at {w w0 : World} {n : Nat} (hn : n = w.heap.size) (x y : Nat) (t : TypeId) (h : w0.heap.size ≤ w.heap.size) : NewPt w0 (w.alloc (.cells #[.float .f64 x, .float .f64 y] t)) n x y := by
  subst hn
  exact ⟨h, by simp, by simp, by simp, frozen_new _ _ _ _, frozen_new _ _ _ _⟩
theorem NewPt.alloc {w wr : World} {g x y : Nat} (h : NewPt w wr g x y) (o : Obj) : NewPt w (wr.alloc o) g x y := h.kp ((Kp.refl _).alloc o)
theorem NewPt.ext {w wr : World} {g x y : Nat} (h : NewPt w wr g x y) (u : World) : NewPt w (ext wr u) g x y := h.kp ((Kp.refl _).ext u)
theorem NewPt.drew {w wr : World} {g x y : Nat} (h : NewPt w wr g x y) : NewPt w wr.drew g x y := h.kp (Kp.refl _).drew
theorem NewPt.drewN {w wr : World} {g x y : Nat} (h : NewPt w wr g x y) (n : Nat) : NewPt w (wr.drewN n) g x y := h.kp ((Kp.refl _).drewN n)
theorem NewPt.new (w : World) (x y : Nat) (t : TypeId) {w0 : World} (h : w0.heap.size ≤ w.heap.size) : NewPt w0 (w.alloc (.cells #[.float .f64 x, .float .f64 y] t)) w.heap.size x y :=
  ⟨h, by simp, by simp, by simp, frozen_new _ _ _ _, frozen_new _ _ _ _⟩

/-- the least and the greatest coordinates -/
def lowF (l : Nat × Nat) (ps : List (Nat × Nat)) : Nat × Nat := ps.foldl (fun l p => (minF l.1 p.1, minF l.2 p.2)) l
def highF (l : Nat × Nat) (ps : List (Nat × Nat)) : Nat × Nat := ps.foldl (fun l p => (maxF l.1 p.1, maxF l.2 p.2)) l
theorem lowF_snoc (l : Nat × Nat) (ps : List (Nat × Nat)) (p : Nat × Nat) : lowF l (ps ++ [p]) = (minF (lowF l ps).1 p.1, minF (lowF l ps).2 p.2) := by
  unfold lowF; rw [List.foldl_append]; rfl
theorem highF_snoc (l : Nat × Nat) (ps : List (Nat × Nat)) (p : Nat × Nat) : highF l (ps ++ [p]) = (maxF (highF l ps).1 p.1, maxF (highF l ps).2 p.2) := by
  unfold highF; rw [List.foldl_append]; rfl

end Go.Proofs.YtohidpmkoehmcaaGreatDoor
