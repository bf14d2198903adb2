/-
  MultiPoint.Bound and Ring.Bound of points with whole coordinates.
-/
import Derived.Test.YtohidpmkoehmcaaGreatDoorMG4
import Derived.Test.YtohidpmkoehmcaaGreatDoorMG2
set_option linter.all false
namespace Go.Proofs.YtohidpmkoehmcaaGreatDoor
open PubFl Go.RowKit

attribute [local go_sem] cell_ext frozen_ext ext_setCell cell_store size_ext_eq lt_p0 lt_p1 lt_p2 lt_p3 lt_p4 lt_p5 lt_p6 lt_p7 lt_p8 lt_p9 lt_p10 lt_p11 lt_p12 lt_p13 lt_p14 lt_p15 lt_p16 lt_p17 lt_p18 lt_p19 lt_p20 lt_p21 lt_p22 lt_p23 lt_p24 lt_p25 lt_p26 lt_p27 lt_p28 lt_p29 lt_p30 lt_p31 lt_p32 lt_q1 lt_q2 lt_q3 lt_q4 lt_q5 lt_q6 lt_q7 lt_q8 lt_q9 lt_q10 lt_q11 lt_q12 lt_q13 lt_q14 lt_q15 lt_q16 lt_q17 lt_q18 lt_q19 lt_q20 lt_q21 lt_q22 lt_q23 lt_q24 lt_q25 lt_q26 lt_q27 lt_q28 lt_q29 lt_q30 lt_q31 lt_q32 run_fop run_store_float
attribute [local go_sem high] cmp_eql cmp_neq cmp_lss cmp_leq cmp_gtr cmp_geq

/-- a box of whole numbers -/
structure BxI (b : Box) (x y z t : Int) : Prop where
  ax : IsV b.ax x
  ay : IsV b.ay y
  bx : IsV b.bx z
  b_y : IsV b.b_y t
  lx : x ≤ z
  ly : y ≤ t
theorem BxI.extend {b : Box} {x y z t p q : Int} {px py : Nat} (h : BxI b x y z t) (hp : IsV px p) (hq : IsV py q) : BxI (b.extend px py) (min x p) (min y q) (max z p) (max t q) := by
  have l1 := h.lx
  have l2 := h.ly
  by_cases c : hasB b.ax b.ay b.bx b.b_y px py = true
  · have e : b.extend px py = b := by unfold Box.extend; rw [if_pos c]
    unfold hasB at c
    rw [ltF_int hq h.ay, ltF_int h.b_y hq, ltF_int hp h.ax, ltF_int h.bx hp] at c
    simp at c
    rw [e, show min x p = x by omega, show min y q = y by omega, show max z p = z by omega, show max t q = t by omega]
    exact h
  · have e : b.extend px py = ⟨minF b.ax px, minF b.ay py, maxF b.bx px, maxF b.b_y py⟩ := by unfold Box.extend; rw [if_neg c]
    rw [e]
    exact ⟨minF_int h.ax hp, minF_int h.ay hq, maxF_int h.bx hp, maxF_int h.b_y hq, by omega, by omega⟩
theorem BxI.nonempty {b : Box} {x y z t : Int} (h : BxI b x y z t) : emptyB b.ax b.ay b.bx b.b_y = false := by
  unfold emptyB
  have l1 := h.lx
  have l2 := h.ly
  rw [gtF_int h.ax h.bx, gtF_int h.ay h.b_y]
  simp; omega

/-- the box of the first points -/
def boundTo (x0 y0 : Nat) (ps : List (Nat × Nat)) (k : Nat) : Box := (ps.take k).foldl (fun b p => b.extend p.1 p.2) ⟨x0, y0, x0, y0⟩
theorem boundTo_succ (x0 y0 : Nat) (ps : List (Nat × Nat)) (k : Nat) (h : k < ps.length) : boundTo x0 y0 ps (k + 1) = (boundTo x0 y0 ps k).extend (ps[k]'h).1 (ps[k]'h).2 := by
  unfold boundTo
  rw [List.take_succ_eq_append_getElem h, List.foldl_append]; rfl
theorem boundTo_int {ps : List (Nat × Nat)} {x y : Nat → Int} (hi : IntPts ps x y) {x0 y0 : Nat} (h0 : IsV x0 (x 0)) (h1 : IsV y0 (y 0)) : ∀ k, k ≤ ps.length → ∃ a b c d, BxI (boundTo x0 y0 ps k) a b c d
  | 0, _ => ⟨x 0, y 0, x 0, y 0, ⟨h0, h1, h0, h1, Int.le_refl _, Int.le_refl _⟩⟩
  | k + 1, h => by
    obtain ⟨a, b, c, d, hk⟩ := boundTo_int hi h0 h1 k (by omega)
    obtain ⟨v0, v1, _, _⟩ := hi k (by omega)
    rw [boundTo_succ _ _ _ _ (by omega)]
    exact ⟨_, _, _, _, hk.extend v0 v1⟩

/-- a new block g holds a box -/
structure NewBx (w wr : World) (g : Nat) (b : Box) : Prop where
  lo : w.heap.size ≤ g
  hi : g < wr.heap.size
  c0 : wr.cell? ⟨g, 0, none⟩ = some (.float .f64 b.ax)
  c1 : wr.cell? ⟨g, 1, none⟩ = some (.float .f64 b.ay)
  c2 : wr.cell? ⟨g, 2, none⟩ = some (.float .f64 b.bx)
  c3 : wr.cell? ⟨g, 3, none⟩ = some (.float .f64 b.b_y)
  z : ∀ i, wr.frozen? ⟨g, i, none⟩ = false
theorem NewBx.kp {w wr w' : World} {g : Nat} {b : Box} (h : NewBx w wr g b) (k : Kp wr w') : NewBx w w' g b :=
  ⟨h.lo, Nat.lt_of_lt_of_le h.hi k.size, Kp.cell k h.c0 h.hi, Kp.cell k h.c1 h.hi, Kp.cell k h.c2 h.hi, Kp.cell k h.c3 h.hi, fun i => (Below.frozen (p := ⟨g, i, none⟩) k h.hi).trans (h.z i)⟩
theorem NewBx.store {w wr : World} {g : Nat} {b : Box} (h : NewBx w wr g b) (c : Box) : NewBx w ((((wr.setCell ⟨g, 0, none⟩ (.float .f64 c.ax)).setCell ⟨g, 1, none⟩ (.float .f64 c.ay)).setCell ⟨g, 2, none⟩ (.float .f64 c.bx)).setCell ⟨g, 3, none⟩ (.float .f64 c.b_y)) g c := by
  obtain ⟨l, hh, c0, c1, c2, c3, z⟩ := h
  refine ⟨l, by simpa using hh, ?_, ?_, ?_, ?_, fun i => by simpa using z i⟩
  · rw [World.cell?_setCell_other _ _ _ _ (by simp), World.cell?_setCell_other _ _ _ _ (by simp), World.cell?_setCell_other _ _ _ _ (by simp)]
    exact World.cell?_setCell_same _ _ _ c0
  · rw [World.cell?_setCell_other _ _ _ _ (by simp), World.cell?_setCell_other _ _ _ _ (by simp)]
    exact World.cell?_setCell_same _ _ _ (by rw [World.cell?_setCell_other _ _ _ _ (by simp)]; exact c1)
  · rw [World.cell?_setCell_other _ _ _ _ (by simp)]
    exact World.cell?_setCell_same _ _ _ (by rw [World.cell?_setCell_other _ _ _ _ (by simp), World.cell?_setCell_other _ _ _ _ (by simp)]; exact c2)
  · exact World.cell?_setCell_same _ _ _ (by rw [World.cell?_setCell_other _ _ _ _ (by simp), World.cell?_setCell_other _ _ _ _ (by simp), World.cell?_setCell_other _ _ _ _ (by simp)]; exact c3)
theorem NewBx.oth {w wr : World} {g k : Nat} {b : Box} (h : NewBx w wr g b) (hk : k ≠ g) (i : Nat) (a : Value) : NewBx w (wr.setCell ⟨k, i, none⟩ a) g b := by
  have n0 : ∀ j, (⟨k, i, none⟩ : Addr) ≠ ⟨g, j, none⟩ := fun j e => hk (by cases e; rfl)
  refine ⟨h.lo, by simpa using h.hi, ?_, ?_, ?_, ?_, fun i => by simpa using h.z i⟩
  · rw [World.cell?_setCell_other _ _ _ _ (n0 0)]; exact h.c0
  · rw [World.cell?_setCell_other _ _ _ _ (n0 1)]; exact h.c1
  · rw [World.cell?_setCell_other _ _ _ _ (n0 2)]; exact h.c2
  · rw [World.cell?_setCell_other _ _ _ _ (n0 3)]; exact h.c3
theorem frozen_new' (w : World) (c : Array Value) (t : TypeId) (i : Nat) : (w.alloc (.cells c t)).frozen? ⟨w.heap.size, i, none⟩ = false := by
  unfold World.frozen? World.alloc
  simp
theorem NewBx.at {w w0 : World} {n : Nat} (hn : n = w.heap.size) (a b c d : Nat) (t : TypeId) (h : w0.heap.size ≤ w.heap.size) : NewBx w0 (w.alloc (.cells #[.float .f64 a, .float .f64 b, .float .f64 c, .float .f64 d] t)) n ⟨a, b, c, d⟩ := by
  subst hn
  exact ⟨h, by simp, by simp, by simp, by simp, by simp, fun i => frozen_new' _ _ _ _⟩
theorem NewBx.alloc {w wr : World} {g : Nat} {b : Box} (h : NewBx w wr g b) (o : Obj) : NewBx w (wr.alloc o) g b := h.kp ((Kp.refl _).alloc o)
theorem NewBx.ext {w wr : World} {g : Nat} {b : Box} (h : NewBx w wr g b) (u : World) : NewBx w (PubFl.ext wr u) g b := h.kp ((Kp.refl _).ext u)
theorem NewBx.drew {w wr : World} {g : Nat} {b : Box} (h : NewBx w wr g b) : NewBx w wr.drew g b := h.kp (Kp.refl _).drew

set_option maxRecDepth 20000 in
set_option maxHeartbeats 2000000 in
theorem mpBound_c (b off cap : Nat) (ps : List (Nat × Nat)) (hn : ps.length ≤ 1000) (hpos : 0 < ps.length) (w : World) (hb : b < w.heap.size) (hpt : PtsAt w b off ps) (x y : Nat → Int) (hi : IntPts ps x y) (x0 y0 : Nat) (h0 : ps[0]'hpos = (x0, y0)) (B : Box) (hB : boundTo x0 y0 ps ps.length = B) :
    Calls Tryz.prog 51 #[.slice (some ⟨b, off, none⟩) ps.length cap] w (Ret w (.agg #[.float .f64 B.ax, .float .f64 B.ay, .float .f64 B.bx, .float .f64 B.b_y])) := by
  obtain ⟨a0, a1⟩ := hpt 0 hpos
  obtain ⟨u0, u1, _, _⟩ := hi 0 hpos
  rw [h0] at a0 a1 u0 u1
  simp only [Nat.zero_mul, Nat.add_zero] at a0 a1
  have hbt := Lib.hid (fun k hk => boundTo_int hi u0 u1 k hk)
  have Hpt := Lib.hid hpt
  have HB := Lib.hid hB
  clear hpt hi u0 u1 h0 hB
  have hl1 : ((0 : Int) < (ps.length : Int)) := by omega
  have hl2 : ((ps.length : Int) = 0) = False := eq_false (by omega)
  have hl3 : ((ps.length : Int) == 0) = false := beq_eq_false_iff_ne.2 (by omega)
  go_enter Tryz.func51, Tryz.ntmps51
  go_upto_region 3 with fail
  go_region
  all_goals go_wp2_with fail
  go_loopw [19] (fun s19 wr => ∃ k : Nat, k ≤ ps.length ∧ s19 = .int .i64 k ∧ Kp w wr ∧ NewBx w wr w.heap.size ⟨0, 0, 0, 0⟩ ∧ NewBx w wr (w.heap.size + 1) (boundTo x0 y0 ps k)) (fun s19 _ => ps.length - (intOf s19).toNat)
  case atStart => exact ⟨0, by omega, rfl, (by repeat (first | (with_reducible exact Kp.refl _) | (with_reducible assumption) | (with_reducible apply Kp.ext) | (with_reducible apply Kp.alloc) | (with_reducible apply Kp.drew) | (with_reducible apply Kp.drewN) | (with_reducible refine Kp.setCell ?_ (by first | (dsimp only; omega) | (simp; omega) | (simp; done) | (simp [size_ext_eq]; omega)) _))), by first | exact ((NewBx.at rfl 0 0 0 0 _ (Nat.le_refl _)).alloc _).drew | exact ((NewBx.at rfl 0 0 0 0 _ (Nat.le_refl _)).alloc _), by first | exact (NewBx.at (by simp) x0 y0 x0 y0 _ (by simp)).drew | exact (NewBx.at (by simp) x0 y0 x0 y0 _ (by simp))⟩
  case round =>
    obtain ⟨k, hkn, rfl, hkp, m1, m2⟩ := hrel
    by_cases hlt : k < ps.length
    · obtain ⟨e0, e1⟩ := Hpt.out.kp hb hkp k hlt
      obtain ⟨A1, A2, A3, A4, hne⟩ := hbt.out k hkn
      have hem := hne.nonempty
      have hsucc := boundTo_succ x0 y0 ps k hlt
      obtain ⟨⟨px, py⟩, hq⟩ : ∃ q, ps[k]'hlt = q := ⟨_, rfl⟩
      rw [hq] at e0 e1 hsucc
      generalize boundTo x0 y0 ps k = bk at *
      obtain ⟨q1, q2, q3, q4⟩ := bk
      have Hs := Lib.hid hsucc
      have hbk : b < wr.heap.size := Nat.lt_of_lt_of_le hb hkp.size
      obtain ⟨_, i2, j0, j1, j2, j3, jz⟩ := id m2
      have i3 : w.heap.size < wr.heap.size := by omega
      have z0 := jz 0
      have z1 := jz 1
      have z2 := jz 2
      have z3 := jz 3
      dsimp only at j0 j1 j2 j3 hem
      clear hq hsucc hne jz
      go_wp2_with (go_at_call 61; (first | (with_reducible refine (Ret.at_ext (extend_c _ _ _ _ _ _ _ hem)).mono ?_) | (with_reducible refine (extend_c _ _ _ _ _ _ _ hem).mono ?_)); rintro e w' ⟨rfl, u, rfl⟩)
      go_roundw
      case rel =>
        refine ⟨k + 1, by omega, by go_num, (by repeat (first | (with_reducible exact Kp.refl _) | (with_reducible assumption) | (with_reducible apply Kp.ext) | (with_reducible apply Kp.alloc) | (with_reducible apply Kp.drew) | (with_reducible apply Kp.drewN) | (with_reducible refine Kp.setCell ?_ (by first | (dsimp only; omega) | (simp; omega) | (simp; done) | (simp [size_ext_eq]; omega)) _))), ?_, ?_⟩
        · exact (((((m1.oth (by omega) _ _).oth (by omega) _ _).oth (by omega) _ _).oth (by omega) _ _).alloc _).ext _
        · rw [Hs.out]
          exact ((m2.store _).alloc _).ext _
      case measure => simp [intOf]; omega
    · obtain rfl : k = ps.length := by omega
      have hB := HB.out
      rw [hB] at m2
      obtain ⟨_, i1, p0, p1, p2, p3, pz⟩ := id m1
      obtain ⟨_, i2, j0, j1, j2, j3, jz⟩ := id m2
      have z0 := pz 0
      have z1 := pz 1
      have z2 := pz 2
      have z3 := pz 3
      dsimp only at p0 p1 p2 p3
      clear pz jz hB
      go_wp2_with fail
      exact bodyPost_ret (v := .agg #[.float .f64 B.ax, .float .f64 B.ay, .float .f64 B.bx, .float .f64 B.b_y]) (by simp [results, Tryz.results51, go_sem, p0, p1, p2, p3]) rfl (Ret.mk rfl (by repeat (first | (with_reducible exact Kp.refl _) | (with_reducible assumption) | (with_reducible apply Kp.ext) | (with_reducible apply Kp.alloc) | (with_reducible apply Kp.drew) | (with_reducible apply Kp.drewN) | (with_reducible refine Kp.setCell ?_ (by first | (dsimp only; omega) | (simp; omega) | (simp; done) | (simp [size_ext_eq]; omega)) _))))

theorem ringBound_c (b off cap : Nat) (ps : List (Nat × Nat)) (hn : ps.length ≤ 1000) (hpos : 0 < ps.length) (w : World) (hb : b < w.heap.size) (hpt : PtsAt w b off ps) (x y : Nat → Int) (hi : IntPts ps x y) (x0 y0 : Nat) (h0 : ps[0]'hpos = (x0, y0)) (B : Box) (hB : boundTo x0 y0 ps ps.length = B) :
    Calls Tryz.prog 36 #[.slice (some ⟨b, off, none⟩) ps.length cap] w (Ret w (.agg #[.float .f64 B.ax, .float .f64 B.ay, .float .f64 B.bx, .float .f64 B.b_y])) := by
  have hc := Lib.hid (fun w' (hk : Kp w w') => mpBound_c b off cap ps hn hpos w' (Nat.lt_of_lt_of_le hb hk.size) (hpt.kp hb hk) x y hi x0 y0 h0 B hB)
  clear hpt hi h0 hB
  go_enter Tryz.func36, Tryz.ntmps36
  go_wp2_with (go_at_call 51; (first | (with_reducible refine (Ret.at_ext (hc.out _ (by repeat (first | (with_reducible exact Kp.refl _) | (with_reducible assumption) | (with_reducible apply Kp.ext) | (with_reducible apply Kp.alloc) | (with_reducible apply Kp.drew) | (with_reducible apply Kp.drewN) | (with_reducible refine Kp.setCell ?_ (by first | (dsimp only; omega) | (simp; omega) | (simp; done) | (simp [size_ext_eq]; omega)) _))))).mono ?_) | (with_reducible refine (hc.out _ (by repeat (first | (with_reducible exact Kp.refl _) | (with_reducible assumption) | (with_reducible apply Kp.ext) | (with_reducible apply Kp.alloc) | (with_reducible apply Kp.drew) | (with_reducible apply Kp.drewN) | (with_reducible refine Kp.setCell ?_ (by first | (dsimp only; omega) | (simp; omega) | (simp; done) | (simp [size_ext_eq]; omega)) _)))).mono ?_)); rintro e w' ⟨rfl, u, rfl⟩)
  exact bodyPost_ret (v := .agg #[.float .f64 B.ax, .float .f64 B.ay, .float .f64 B.bx, .float .f64 B.b_y]) (by simp [results, Tryz.results36, go_sem]) rfl (Ret.mk rfl (by repeat (first | (with_reducible exact Kp.refl _) | (with_reducible assumption) | (with_reducible apply Kp.ext) | (with_reducible apply Kp.alloc) | (with_reducible apply Kp.drew) | (with_reducible apply Kp.drewN) | (with_reducible refine Kp.setCell ?_ (by first | (dsimp only; omega) | (simp; omega) | (simp; done) | (simp [size_ext_eq]; omega)) _))))
end Go.Proofs.YtohidpmkoehmcaaGreatDoor
