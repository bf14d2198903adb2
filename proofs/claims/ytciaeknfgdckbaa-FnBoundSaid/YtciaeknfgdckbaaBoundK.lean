/-
  Bound of points, polygons, rows of lines, rows of polygons, collections.
-/
import Derived.Test.YtciaeknfgdckbaaBoxSh
import Derived.Deep.DrawnRows
namespace Go.Proofs.Ytciaeknfgdckbaa
open PubFl Go.RowKit

attribute [local go_sem] cell_ext frozen_ext ext_setCell cell_store size_ext_eq lt_p0 lt_p1 lt_p2 lt_p3 lt_p4 lt_p5 lt_p6 lt_p7 lt_p8 lt_p9 lt_p10 lt_p11 lt_p12 lt_p13 lt_p14 lt_p15 lt_p16 lt_p17 lt_p18 lt_p19 lt_p20 lt_p21 lt_p22 lt_p23 lt_p24 lt_p25 lt_p26 lt_p27 lt_p28 lt_p29 lt_p30 lt_p31 lt_p32 lt_q1 lt_q2 lt_q3 lt_q4 lt_q5 lt_q6 lt_q7 lt_q8 lt_q9 lt_q10 lt_q11 lt_q12 lt_q13 lt_q14 lt_q15 lt_q16 lt_q17 lt_q18 lt_q19 lt_q20 lt_q21 lt_q22 lt_q23 lt_q24 lt_q25 lt_q26 lt_q27 lt_q28 lt_q29 lt_q30 lt_q31 lt_q32 run_fop run_store_float
attribute [local go_sem high] cmp_eql cmp_neq cmp_lss cmp_leq cmp_gtr cmp_geq

theorem ptBound_c (x y : Nat) (w : World) : Calls Try.prog 80 #[.agg #[.float .f64 x, .float .f64 y]] w (Ret w (.agg #[.float .f64 x, .float .f64 y, .float .f64 x, .float .f64 y])) := by
  go_enter Try.func80, Try.ntmps80
  go_wp2_with fail
  exact bodyPost_ret (v := .agg #[.float .f64 x, .float .f64 y, .float .f64 x, .float .f64 y]) (by simp [results, Try.results80, go_sem]) rfl (Ret.mk rfl (by repeat (first | (with_reducible exact Kp.refl _) | (with_reducible assumption) | (with_reducible apply Kp.ext) | (with_reducible apply Kp.alloc) | (with_reducible apply Kp.drew) | (with_reducible apply Kp.drewN) | (with_reducible refine Kp.setCell ?_ (by first | (dsimp only; omega) | (simp; omega) | (simp; done) | (simp [size_ext_eq]; omega)) _))))

theorem pgBound_c (g cap n : Nat) (hn : 0 < n) (h40 : n ≤ 40) (w : World) (hg : g < w.heap.size) (b : Box) (x : Value) (hc : w.cell? ⟨g, 0, none⟩ = some x) (hx : ∃ a m c, x = .slice a m c) (h : ∀ w', Kp w w' → Calls Try.prog 101 #[x] w' (Ret w' (.agg #[.float .f64 (b).ax, .float .f64 (b).ay, .float .f64 (b).bx, .float .f64 (b).b_y]))) :
    Calls Try.prog 97 #[.slice (some ⟨g, 0, none⟩) n cap] w (Ret w (.agg #[.float .f64 (b).ax, .float .f64 (b).ay, .float .f64 (b).bx, .float .f64 (b).b_y])) := by
  have H := Lib.hid h
  obtain ⟨a, m, c, rfl⟩ := hx
  have e1 : ((n : Int) == 0) = false := beq_eq_false_iff_ne.2 (by omega)
  have e2 : (0 : Int) < (n : Int) := by omega
  have e3 : (n = 0) = False := eq_false (by omega)
  clear h
  go_enter Try.func97, Try.ntmps97
  go_wp2_with (go_at_call 101; (first | (with_reducible refine (Ret.at_ext (H.out _ (by repeat (first | (with_reducible exact Kp.refl _) | (with_reducible assumption) | (with_reducible apply Kp.ext) | (with_reducible apply Kp.alloc) | (with_reducible apply Kp.drew) | (with_reducible apply Kp.drewN) | (with_reducible refine Kp.setCell ?_ (by first | (dsimp only; omega) | (simp; omega) | (simp; done) | (simp [size_ext_eq]; omega)) _))))).mono ?_) | (with_reducible refine (H.out _ (by repeat (first | (with_reducible exact Kp.refl _) | (with_reducible assumption) | (with_reducible apply Kp.ext) | (with_reducible apply Kp.alloc) | (with_reducible apply Kp.drew) | (with_reducible apply Kp.drewN) | (with_reducible refine Kp.setCell ?_ (by first | (dsimp only; omega) | (simp; omega) | (simp; done) | (simp [size_ext_eq]; omega)) _)))).mono ?_)); rintro e w' ⟨rfl, u, rfl⟩)
  exact bodyPost_ret (v := .agg #[.float .f64 (b).ax, .float .f64 (b).ay, .float .f64 (b).bx, .float .f64 (b).b_y]) (by simp [results, Try.results97, go_sem]) rfl (Ret.mk rfl (by repeat (first | (with_reducible exact Kp.refl _) | (with_reducible assumption) | (with_reducible apply Kp.ext) | (with_reducible apply Kp.alloc) | (with_reducible apply Kp.drew) | (with_reducible apply Kp.drewN) | (with_reducible refine Kp.setCell ?_ (by first | (dsimp only; omega) | (simp; omega) | (simp; done) | (simp [size_ext_eq]; omega)) _))))


set_option maxRecDepth 20000 in
set_option maxHeartbeats 2000000 in
theorem rowMultiLineString_c (g cap n : Nat) (hn : 0 < n) (h40 : n ≤ 40) (w : World) (hg : g < w.heap.size) (f : Nat → Box)
    (hel : ∀ i, i < n → ∃ x, w.cell? ⟨g, i, none⟩ = some x ∧ (∃ a m c, x = .slice a m c) ∧ ∀ w', Kp w w' → Calls Try.prog 88 #[x] w' (Ret w' (.agg #[.float .f64 (f i).ax, .float .f64 (f i).ay, .float .f64 (f i).bx, .float .f64 (f i).b_y]))) (hun : ∀ k, k + 1 < n → UnOk (boxTo f k) (f (k + 1))) :
    Calls Try.prog 105 #[.slice (some ⟨g, 0, none⟩) n cap] w (Ret w (.agg #[.float .f64 (boxTo f (n - 1)).ax, .float .f64 (boxTo f (n - 1)).ay, .float .f64 (boxTo f (n - 1)).bx, .float .f64 (boxTo f (n - 1)).b_y])) := by
  obtain ⟨x0, hc0, ⟨a0, m0, c0, rfl⟩, h0⟩ := hel 0 hn
  have H0 := Lib.hid h0
  have Hel := Lib.hid hel
  have Hun := Lib.hid hun
  have e1 : ((n : Int) == 0) = false := beq_eq_false_iff_ne.2 (by omega)
  have e2 : (0 : Int) < (n : Int) := by omega
  have e3 : (n = 0) = False := eq_false (by omega)
  clear h0 hel hun
  go_enter Try.func105, Try.ntmps105
  go_wp2_with (go_at_call 88; (first | (with_reducible refine (Ret.at_ext (H0.out _ (by repeat (first | (with_reducible exact Kp.refl _) | (with_reducible assumption) | (with_reducible apply Kp.ext) | (with_reducible apply Kp.alloc) | (with_reducible apply Kp.drew) | (with_reducible apply Kp.drewN) | (with_reducible refine Kp.setCell ?_ (by first | (dsimp only; omega) | (simp; omega) | (simp; done) | (simp [size_ext_eq]; omega)) _))))).mono ?_) | (with_reducible refine (H0.out _ (by repeat (first | (with_reducible exact Kp.refl _) | (with_reducible assumption) | (with_reducible apply Kp.ext) | (with_reducible apply Kp.alloc) | (with_reducible apply Kp.drew) | (with_reducible apply Kp.drewN) | (with_reducible refine Kp.setCell ?_ (by first | (dsimp only; omega) | (simp; omega) | (simp; done) | (simp [size_ext_eq]; omega)) _)))).mono ?_)); rintro e w' ⟨rfl, u, rfl⟩)
  generalize hN : w.heap.size + 1 + dz (w.heap.size + 1) u = N at *
  have HN := Lib.hid hN
  clear hN
  go_loopw [4] (fun s4 wr => ∃ k : Nat, 1 ≤ k ∧ k ≤ n ∧ s4 = .int .i64 k ∧ Kp w wr ∧ NewBx w wr w.heap.size ⟨0, 0, 0, 0⟩ ∧ NewBx w wr N (boxTo f (k - 1))) (fun s4 _ => n - (intOf s4).toNat)
  case atStart =>
    refine ⟨1, Nat.le_refl _, hn, rfl, (by repeat (first | (with_reducible exact Kp.refl _) | (with_reducible assumption) | (with_reducible apply Kp.ext) | (with_reducible apply Kp.alloc) | (with_reducible apply Kp.drew) | (with_reducible apply Kp.drewN) | (with_reducible refine Kp.setCell ?_ (by first | (dsimp only; omega) | (simp; omega) | (simp; done) | (simp [size_ext_eq]; omega)) _))), ?_, ?_⟩
    · exact ((NewBx.at rfl 0 0 0 0 _ (Nat.le_refl _)).ext _).alloc _
    · exact NewBx.at (by rw [← HN.out]; simp [size_ext_eq]) _ _ _ _ _ (by simp [size_ext_eq]; omega)
  case round =>
    obtain ⟨k, h1k, hkn, rfl, hkp, m1, m2⟩ := hrel
    by_cases hlt : k < n
    · obtain ⟨x, hc, ⟨a, m, c, rfl⟩, hx⟩ := Hel.out k hlt
      have hc := Kp.cell hkp hc hg
      have hgr : g < wr.heap.size := Nat.lt_of_lt_of_le hg hkp.size
      have hX := Lib.hid (fun w' (hk : Kp w w') => hx w' hk)
      have hun := Hun.out (k - 1) (by omega)
      rw [show k - 1 + 1 = k by omega] at hun
      have hnx : boxTo f (k + 1 - 1) = (boxTo f (k - 1)).union (f k) := by
        obtain ⟨j, rfl⟩ : ∃ j, k = j + 1 := ⟨k - 1, by omega⟩
        rfl
      have Hnx := Lib.hid hnx
      have HU := Lib.hid (fun w' => unionB_c _ _ w' hun)
      obtain ⟨_, i2, j0, j1, j2, j3, jz⟩ := id m2
      have z0 := jz 0
      have z1 := jz 1
      have z2 := jz 2
      have z3 := jz 3
      have hk1 : (k : Int) < (n : Int) := by omega
      have hNL := m2.lo
      have hne : w.heap.size ≠ N := fun e => by
        have := HN.out; omega
      simp only [Box.v_eq] at HU
      generalize boxTo f (k - 1) = bk at *
      obtain ⟨q1, q2, q3, q4⟩ := bk
      dsimp only at j0 j1 j2 j3 HU
      clear hx hnx hun jz
      go_wp2_with fail
      first | (with_reducible refine wp_region_ext_tail2 7 ?_ ?_ ?_) | refine wp_region_ext_tail 7 ?_ ?_ ?_
      kernel_rfl
      kernel_rfl
      simp only [List.take_succ_cons, List.take_zero, List.drop_succ_cons, List.drop_zero]
      repeat (go_big_quiet_step (first | (go_at_call 88; with_reducible exact Ret.quiet (hX.out _ (by repeat (first | (with_reducible exact Kp.refl _) | (with_reducible assumption) | (with_reducible apply Kp.ext) | (with_reducible apply Kp.alloc) | (with_reducible apply Kp.drew) | (with_reducible apply Kp.drewN) | (with_reducible refine Kp.setCell ?_ (by first | (dsimp only; omega) | (simp; omega) | (simp; done) | (simp [size_ext_eq]; omega)) _))))) | (go_at_call 109; with_reducible exact Ret.quiet (HU.out _))))
      refine wpQuiet_nil ?_
      rintro _ ⟨u, rfl⟩
      go_wp2_with fail
      go_roundw
      case rel =>
        refine ⟨k + 1, by omega, by omega, by go_num, (by repeat (first | (with_reducible exact Kp.refl _) | (with_reducible assumption) | (with_reducible apply Kp.ext) | (with_reducible apply Kp.alloc) | (with_reducible apply Kp.drew) | (with_reducible apply Kp.drewN) | (with_reducible refine Kp.setCell ?_ (by first | (dsimp only; omega) | (simp; omega) | (simp; done) | (simp [size_ext_eq]; omega)) _))), ?_, ?_⟩
        · exact ((((m1.oth (by omega) _ _).oth (by omega) _ _).oth (by omega) _ _).oth (by omega) _ _).ext _
        · rw [Hnx.out]
          exact (m2.store _).ext _
      case measure => simp [intOf]; omega
    · obtain rfl : k = n := by omega
      obtain ⟨_, i1, p0, p1, p2, p3, pz⟩ := id m1
      obtain ⟨_, i2, j0, j1, j2, j3, jz⟩ := id m2
      have z0 := pz 0
      have z1 := pz 1
      have z2 := pz 2
      have z3 := pz 3
      generalize boxTo f (k - 1) = bk at *
      obtain ⟨q1, q2, q3, q4⟩ := bk
      dsimp only at p0 p1 p2 p3 j0 j1 j2 j3
      clear pz jz
      go_wp2_with fail
      exact bodyPost_ret (v := .agg #[.float .f64 q1, .float .f64 q2, .float .f64 q3, .float .f64 q4]) (by simp [results, Try.results105, go_sem, p0, p1, p2, p3]) rfl (Ret.mk rfl (by repeat (first | (with_reducible exact Kp.refl _) | (with_reducible assumption) | (with_reducible apply Kp.ext) | (with_reducible apply Kp.alloc) | (with_reducible apply Kp.drew) | (with_reducible apply Kp.drewN) | (with_reducible refine Kp.setCell ?_ (by first | (dsimp only; omega) | (simp; omega) | (simp; done) | (simp [size_ext_eq]; omega)) _))))


set_option maxRecDepth 20000 in
set_option maxHeartbeats 2000000 in
theorem rowMultiPolygon_c (g cap n : Nat) (hn : 0 < n) (h40 : n ≤ 40) (w : World) (hg : g < w.heap.size) (f : Nat → Box)
    (hel : ∀ i, i < n → ∃ x, w.cell? ⟨g, i, none⟩ = some x ∧ (∃ a m c, x = .slice a m c) ∧ ∀ w', Kp w w' → Calls Try.prog 97 #[x] w' (Ret w' (.agg #[.float .f64 (f i).ax, .float .f64 (f i).ay, .float .f64 (f i).bx, .float .f64 (f i).b_y]))) (hun : ∀ k, k + 1 < n → UnOk (boxTo f k) (f (k + 1))) :
    Calls Try.prog 116 #[.slice (some ⟨g, 0, none⟩) n cap] w (Ret w (.agg #[.float .f64 (boxTo f (n - 1)).ax, .float .f64 (boxTo f (n - 1)).ay, .float .f64 (boxTo f (n - 1)).bx, .float .f64 (boxTo f (n - 1)).b_y])) := by
  obtain ⟨x0, hc0, ⟨a0, m0, c0, rfl⟩, h0⟩ := hel 0 hn
  have H0 := Lib.hid h0
  have Hel := Lib.hid hel
  have Hun := Lib.hid hun
  have e1 : ((n : Int) == 0) = false := beq_eq_false_iff_ne.2 (by omega)
  have e2 : (0 : Int) < (n : Int) := by omega
  have e3 : (n = 0) = False := eq_false (by omega)
  clear h0 hel hun
  go_enter Try.func116, Try.ntmps116
  go_wp2_with (go_at_call 97; (first | (with_reducible refine (Ret.at_ext (H0.out _ (by repeat (first | (with_reducible exact Kp.refl _) | (with_reducible assumption) | (with_reducible apply Kp.ext) | (with_reducible apply Kp.alloc) | (with_reducible apply Kp.drew) | (with_reducible apply Kp.drewN) | (with_reducible refine Kp.setCell ?_ (by first | (dsimp only; omega) | (simp; omega) | (simp; done) | (simp [size_ext_eq]; omega)) _))))).mono ?_) | (with_reducible refine (H0.out _ (by repeat (first | (with_reducible exact Kp.refl _) | (with_reducible assumption) | (with_reducible apply Kp.ext) | (with_reducible apply Kp.alloc) | (with_reducible apply Kp.drew) | (with_reducible apply Kp.drewN) | (with_reducible refine Kp.setCell ?_ (by first | (dsimp only; omega) | (simp; omega) | (simp; done) | (simp [size_ext_eq]; omega)) _)))).mono ?_)); rintro e w' ⟨rfl, u, rfl⟩)
  generalize hN : w.heap.size + 1 + dz (w.heap.size + 1) u = N at *
  have HN := Lib.hid hN
  clear hN
  go_loopw [4] (fun s4 wr => ∃ k : Nat, 1 ≤ k ∧ k ≤ n ∧ s4 = .int .i64 k ∧ Kp w wr ∧ NewBx w wr w.heap.size ⟨0, 0, 0, 0⟩ ∧ NewBx w wr N (boxTo f (k - 1))) (fun s4 _ => n - (intOf s4).toNat)
  case atStart =>
    refine ⟨1, Nat.le_refl _, hn, rfl, (by repeat (first | (with_reducible exact Kp.refl _) | (with_reducible assumption) | (with_reducible apply Kp.ext) | (with_reducible apply Kp.alloc) | (with_reducible apply Kp.drew) | (with_reducible apply Kp.drewN) | (with_reducible refine Kp.setCell ?_ (by first | (dsimp only; omega) | (simp; omega) | (simp; done) | (simp [size_ext_eq]; omega)) _))), ?_, ?_⟩
    · exact ((NewBx.at rfl 0 0 0 0 _ (Nat.le_refl _)).ext _).alloc _
    · exact NewBx.at (by rw [← HN.out]; simp [size_ext_eq]) _ _ _ _ _ (by simp [size_ext_eq]; omega)
  case round =>
    obtain ⟨k, h1k, hkn, rfl, hkp, m1, m2⟩ := hrel
    by_cases hlt : k < n
    · obtain ⟨x, hc, ⟨a, m, c, rfl⟩, hx⟩ := Hel.out k hlt
      have hc := Kp.cell hkp hc hg
      have hgr : g < wr.heap.size := Nat.lt_of_lt_of_le hg hkp.size
      have hX := Lib.hid (fun w' (hk : Kp w w') => hx w' hk)
      have hun := Hun.out (k - 1) (by omega)
      rw [show k - 1 + 1 = k by omega] at hun
      have hnx : boxTo f (k + 1 - 1) = (boxTo f (k - 1)).union (f k) := by
        obtain ⟨j, rfl⟩ : ∃ j, k = j + 1 := ⟨k - 1, by omega⟩
        rfl
      have Hnx := Lib.hid hnx
      have HU := Lib.hid (fun w' => unionB_c _ _ w' hun)
      obtain ⟨_, i2, j0, j1, j2, j3, jz⟩ := id m2
      have z0 := jz 0
      have z1 := jz 1
      have z2 := jz 2
      have z3 := jz 3
      have hk1 : (k : Int) < (n : Int) := by omega
      have hNL := m2.lo
      have hne : w.heap.size ≠ N := fun e => by
        have := HN.out; omega
      simp only [Box.v_eq] at HU
      generalize boxTo f (k - 1) = bk at *
      obtain ⟨q1, q2, q3, q4⟩ := bk
      dsimp only at j0 j1 j2 j3 HU
      clear hx hnx hun jz
      go_wp2_with fail
      first | (with_reducible refine wp_region_ext_tail2 7 ?_ ?_ ?_) | refine wp_region_ext_tail 7 ?_ ?_ ?_
      kernel_rfl
      kernel_rfl
      simp only [List.take_succ_cons, List.take_zero, List.drop_succ_cons, List.drop_zero]
      repeat (go_big_quiet_step (first | (go_at_call 97; with_reducible exact Ret.quiet (hX.out _ (by repeat (first | (with_reducible exact Kp.refl _) | (with_reducible assumption) | (with_reducible apply Kp.ext) | (with_reducible apply Kp.alloc) | (with_reducible apply Kp.drew) | (with_reducible apply Kp.drewN) | (with_reducible refine Kp.setCell ?_ (by first | (dsimp only; omega) | (simp; omega) | (simp; done) | (simp [size_ext_eq]; omega)) _))))) | (go_at_call 109; with_reducible exact Ret.quiet (HU.out _))))
      refine wpQuiet_nil ?_
      rintro _ ⟨u, rfl⟩
      go_wp2_with fail
      go_roundw
      case rel =>
        refine ⟨k + 1, by omega, by omega, by go_num, (by repeat (first | (with_reducible exact Kp.refl _) | (with_reducible assumption) | (with_reducible apply Kp.ext) | (with_reducible apply Kp.alloc) | (with_reducible apply Kp.drew) | (with_reducible apply Kp.drewN) | (with_reducible refine Kp.setCell ?_ (by first | (dsimp only; omega) | (simp; omega) | (simp; done) | (simp [size_ext_eq]; omega)) _))), ?_, ?_⟩
        · exact ((((m1.oth (by omega) _ _).oth (by omega) _ _).oth (by omega) _ _).oth (by omega) _ _).ext _
        · rw [Hnx.out]
          exact (m2.store _).ext _
      case measure => simp [intOf]; omega
    · obtain rfl : k = n := by omega
      obtain ⟨_, i1, p0, p1, p2, p3, pz⟩ := id m1
      obtain ⟨_, i2, j0, j1, j2, j3, jz⟩ := id m2
      have z0 := pz 0
      have z1 := pz 1
      have z2 := pz 2
      have z3 := pz 3
      generalize boxTo f (k - 1) = bk at *
      obtain ⟨q1, q2, q3, q4⟩ := bk
      dsimp only at p0 p1 p2 p3 j0 j1 j2 j3
      clear pz jz
      go_wp2_with fail
      exact bodyPost_ret (v := .agg #[.float .f64 q1, .float .f64 q2, .float .f64 q3, .float .f64 q4]) (by simp [results, Try.results116, go_sem, p0, p1, p2, p3]) rfl (Ret.mk rfl (by repeat (first | (with_reducible exact Kp.refl _) | (with_reducible assumption) | (with_reducible apply Kp.ext) | (with_reducible apply Kp.alloc) | (with_reducible apply Kp.drew) | (with_reducible apply Kp.drewN) | (with_reducible refine Kp.setCell ?_ (by first | (dsimp only; omega) | (simp; omega) | (simp; done) | (simp [size_ext_eq]; omega)) _))))


set_option maxRecDepth 20000 in
set_option maxHeartbeats 2000000 in
theorem rowCol_c (g cap n : Nat) (hn : 0 < n) (h40 : n ≤ 40) (w : World) (hg : g < w.heap.size) (f : Nat → Box)
    (hel : ∀ i, i < n → ∃ t x F, w.cell? ⟨g, i, none⟩ = some (.iface t x) ∧ (∀ w, Sem.run Try.prog (method 220 t x "Bound") w = .ok (F, x) w) ∧ (∀ w, Sem.run Try.prog (callFunc F #[x]) w = .ok (.enter F #[x]) w) ∧ ∀ w', Kp w w' → Calls Try.prog F #[x] w' (Ret w' (.agg #[.float .f64 (f i).ax, .float .f64 (f i).ay, .float .f64 (f i).bx, .float .f64 (f i).b_y]))) (hun : ∀ k, k + 1 < n → UnOk (boxTo f k) (f (k + 1))) :
    Calls Try.prog 120 #[.slice (some ⟨g, 0, none⟩) n cap] w (Ret w (.agg #[.float .f64 (boxTo f (n - 1)).ax, .float .f64 (boxTo f (n - 1)).ay, .float .f64 (boxTo f (n - 1)).bx, .float .f64 (boxTo f (n - 1)).b_y])) := by
  obtain ⟨t0, x0, F0, hc0, hm0, hE0, h0⟩ := hel 0 hn
  have H0 := Lib.hid h0
  have Hel := Lib.hid hel
  have Hun := Lib.hid hun
  have e1 : ((n : Int) == 0) = false := beq_eq_false_iff_ne.2 (by omega)
  have e2 : (0 : Int) < (n : Int) := by omega
  have e3 : (n = 0) = False := eq_false (by omega)
  clear h0 hel hun
  go_enter Try.func120, Try.ntmps120
  go_wp2_with fail
  go_loopw [4, 14] (fun s4 s14 wr => s4 = .int .i64 (-1) ∧ s14 = .int .i64 0 ∧ wr = ((w.alloc (.cells #[.float .f64 0, .float .f64 0, .float .f64 0, .float .f64 0] 48)).alloc (.cells #[.float .f64 0, .float .f64 0, .float .f64 0, .float .f64 0] 48))) (fun _ _ _ => 0)
  case atStart => exact ⟨rfl, rfl, rfl⟩
  case round =>
    obtain ⟨rfl, rfl, rfl⟩ := hrel
    go_wp2_with ((with_reducible refine (H0.out _ (by repeat (first | (with_reducible exact Kp.refl _) | (with_reducible assumption) | (with_reducible apply Kp.ext) | (with_reducible apply Kp.alloc) | (with_reducible apply Kp.drew) | (with_reducible apply Kp.drewN) | (with_reducible refine Kp.setCell ?_ (by first | (dsimp only; omega) | (simp; omega) | (simp; done) | (simp [size_ext_eq]; omega)) _)))).mono ?_); rintro e w' ⟨rfl, u, rfl⟩)
    generalize hN : w.heap.size + 1 = N at *
    have HN := Lib.hid hN
    clear hN hm0 hE0 hc0
    go_loopw [7] (fun s7 wr => ∃ k : Nat, 1 ≤ k ∧ k ≤ n ∧ s7 = .int .i64 k ∧ Kp w wr ∧ NewBx w wr w.heap.size ⟨0, 0, 0, 0⟩ ∧ NewBx w wr N (boxTo f (k - 1))) (fun s7 _ => n - (intOf s7).toNat)
    case atStart =>
      refine ⟨1, Nat.le_refl _, hn, rfl, (by repeat (first | (with_reducible exact Kp.refl _) | (with_reducible assumption) | (with_reducible apply Kp.ext) | (with_reducible apply Kp.alloc) | (with_reducible apply Kp.drew) | (with_reducible apply Kp.drewN) | (with_reducible refine Kp.setCell ?_ (by first | (dsimp only; omega) | (simp; omega) | (simp; done) | (simp [size_ext_eq]; omega)) _))), ?_, ?_⟩
      · exact ((NewBx.at rfl 0 0 0 0 _ (Nat.le_refl _)).alloc _).ext _
      · exact (NewBx.at (by rw [← HN.out]; simp) _ _ _ _ _ (by simp)).ext _
    case round =>
      obtain ⟨k, h1k, hkn, rfl, hkp, m1, m2⟩ := hrel
      by_cases hlt : k < n
      · obtain ⟨t, x, F, hc, hm, hE, hx⟩ := Hel.out k hlt
        have hc := Kp.cell hkp hc hg
        have hgr : g < wr.heap.size := Nat.lt_of_lt_of_le hg hkp.size
        have hX := Lib.hid (fun w' (hk : Kp w w') => hx w' hk)
        have hun := Hun.out (k - 1) (by omega)
        rw [show k - 1 + 1 = k by omega] at hun
        have hnx : boxTo f (k + 1 - 1) = (boxTo f (k - 1)).union (f k) := by
          obtain ⟨j, rfl⟩ : ∃ j, k = j + 1 := ⟨k - 1, by omega⟩
          rfl
        have Hnx := Lib.hid hnx
        have HU := Lib.hid (fun w' => unionB_c _ _ w' hun)
        obtain ⟨_, i2, j0, j1, j2, j3, jz⟩ := id m2
        have z0 := jz 0
        have z1 := jz 1
        have z2 := jz 2
        have z3 := jz 3
        have hk1 : (k : Int) < (n : Int) := by omega
        have hNL := m2.lo
        have hne : w.heap.size ≠ N := fun e => by
          have := HN.out; omega
        simp only [Box.v_eq] at HU
        generalize boxTo f (k - 1) = bk at *
        obtain ⟨q1, q2, q3, q4⟩ := bk
        dsimp only at j0 j1 j2 j3 HU
        clear hx hnx hun jz
        go_wp2_with fail
        first | (with_reducible refine wp_region_ext_tail2 7 ?_ ?_ ?_) | refine wp_region_ext_tail 7 ?_ ?_ ?_
        kernel_rfl
        kernel_rfl
        simp only [List.take_succ_cons, List.take_zero, List.drop_succ_cons, List.drop_zero]
        repeat (go_big_quiet_step (first | (go_at_call 109; with_reducible exact Ret.quiet (HU.out _)) | (with_reducible exact Ret.quiet (hX.out _ (by repeat (first | (with_reducible exact Kp.refl _) | (with_reducible assumption) | (with_reducible apply Kp.ext) | (with_reducible apply Kp.alloc) | (with_reducible apply Kp.drew) | (with_reducible apply Kp.drewN) | (with_reducible refine Kp.setCell ?_ (by first | (dsimp only; omega) | (simp; omega) | (simp; done) | (simp [size_ext_eq]; omega)) _)))))))
        refine wpQuiet_nil ?_
        rintro _ ⟨u, rfl⟩
        go_wp2_with fail
        go_roundw
        case rel =>
          refine ⟨k + 1, by omega, by omega, by go_num, (by repeat (first | (with_reducible exact Kp.refl _) | (with_reducible assumption) | (with_reducible apply Kp.ext) | (with_reducible apply Kp.alloc) | (with_reducible apply Kp.drew) | (with_reducible apply Kp.drewN) | (with_reducible refine Kp.setCell ?_ (by first | (dsimp only; omega) | (simp; omega) | (simp; done) | (simp [size_ext_eq]; omega)) _))), ?_, ?_⟩
          · exact ((((m1.oth (by omega) _ _).oth (by omega) _ _).oth (by omega) _ _).oth (by omega) _ _).ext _
          · rw [Hnx.out]
            exact (m2.store _).ext _
        case measure => simp [intOf]; omega
      · obtain rfl : k = n := by omega
        obtain ⟨_, i1, p0, p1, p2, p3, pz⟩ := id m1
        obtain ⟨_, i2, j0, j1, j2, j3, jz⟩ := id m2
        have z0 := pz 0
        have z1 := pz 1
        have z2 := pz 2
        have z3 := pz 3
        generalize boxTo f (k - 1) = bk at *
        obtain ⟨q1, q2, q3, q4⟩ := bk
        dsimp only at p0 p1 p2 p3 j0 j1 j2 j3
        clear pz jz
        go_wp2_with fail
        exact bodyPost_ret (v := .agg #[.float .f64 q1, .float .f64 q2, .float .f64 q3, .float .f64 q4]) (by simp [results, Try.results120, go_sem, p0, p1, p2, p3]) rfl (Ret.mk rfl (by repeat (first | (with_reducible exact Kp.refl _) | (with_reducible assumption) | (with_reducible apply Kp.ext) | (with_reducible apply Kp.alloc) | (with_reducible apply Kp.drew) | (with_reducible apply Kp.drewN) | (with_reducible refine Kp.setCell ?_ (by first | (dsimp only; omega) | (simp; omega) | (simp; done) | (simp [size_ext_eq]; omega)) _))))
end Go.Proofs.Ytciaeknfgdckbaa
