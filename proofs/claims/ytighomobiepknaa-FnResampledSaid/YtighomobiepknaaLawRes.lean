/-
  laws.FnResampled, walked: it answers true.
-/
import Derived.Test.YtighomobiepknaaRes
namespace Go.Proofs.Ytighomobiepknaa
open PubFl Go.RowKit

attribute [local go_sem] cell_ext frozen_ext ext_setCell cell_store size_ext_eq lt_p0 lt_p1 lt_p2 lt_p3 lt_p4 lt_p5 lt_p6 lt_p7 lt_p8 lt_p9 lt_p10 lt_p11 lt_p12 lt_p13 lt_p14 lt_p15 lt_p16 lt_p17 lt_p18 lt_p19 lt_p20 lt_p21 lt_p22 lt_p23 lt_p24 lt_p25 lt_p26 lt_p27 lt_p28 lt_p29 lt_p30 lt_p31 lt_p32 lt_q1 lt_q2 lt_q3 lt_q4 lt_q5 lt_q6 lt_q7 lt_q8 lt_q9 lt_q10 lt_q11 lt_q12 lt_q13 lt_q14 lt_q15 lt_q16 lt_q17 lt_q18 lt_q19 lt_q20 lt_q21 lt_q22 lt_q23 lt_q24 lt_q25 lt_q26 lt_q27 lt_q28 lt_q29 lt_q30 lt_q31 lt_q32 run_fop run_store_float
attribute [local go_sem high] cmp_eql cmp_neq cmp_lss cmp_leq cmp_gtr cmp_geq

theorem resOut_get (x0 y0 x1 y1 p i : Nat) (hp : 1 ≤ p) (h : i < (resOut x0 y0 x1 y1 p).length) :
    (resOut x0 y0 x1 y1 p)[i] = if i = p then (x1, y1) else if i = 0 then (x0, y0) else (resP (curW (sqrtF (dsqF x0 y0 x1 y1)) p i) (sqrtF (dsqF x0 y0 x1 y1)) x0 x1, resP (curW (sqrtF (dsqF x0 y0 x1 y1)) p i) (sqrtF (dsqF x0 y0 x1 y1)) y0 y1) := by
  have hi : i < p + 1 := by rw [resOut_length] at h; exact h
  unfold resOut at h ⊢
  rw [List.getElem_set]
  by_cases h1 : p = i
  · rw [if_pos h1, if_pos h1.symm]
  · rw [if_neg h1, if_neg (fun e => h1 e.symm)]
    by_cases h2 : i = 0
    · subst h2; rw [if_pos rfl]; rfl
    · rw [if_neg h2]; exact resL_get _ _ _ _ _ _ _ _ _ (by omega)

/-- each of the points is as far along as it should be -/
theorem res_each {x0 y0 x1 y1 p : Nat} {a b L : Int} (h : AxisEnds x0 y0 x1 y1 a b L) (hp : 1 ≤ p) (hp2 : p ≤ 100) (i : Nat) (hi : i ≤ p) (hl : i < (resOut x0 y0 x1 y1 p).length) :
    ∃ q v : Rat, q * ((p : Int) : Rat) = ((L * i : Int) : Rat) ∧ 0 ≤ q ∧ q ≤ 500 ∧ IsV ((resOut x0 y0 x1 y1 p)[i]).1 v ∧ Within v (a + q) (1 / 100000000) ∧ IsV ((resOut x0 y0 x1 y1 p)[i]).2 b := by
  obtain ⟨ok, so, vd⟩ := h.dist
  obtain ⟨h0, k0, h1, k1, ha, hb, l1, l2⟩ := h
  have l4 : (L : Rat) ≤ 500 := int_le l2
  have l5 : (0 : Rat) ≤ L := int_le (a := 0) (by omega)
  rw [resOut_get _ _ _ _ _ _ hp]
  by_cases c1 : i = p
  · rw [if_pos c1]
    subst c1
    refine ⟨L, ((a + L : Int) : Rat), by rw [Rat.intCast_mul], l5, l4, h1, ?_, k1⟩
    rw [Rat.intCast_add]
    constructor <;> grind
  · rw [if_neg c1]
    by_cases c2 : i = 0
    · rw [if_pos c2]
      subst c2
      refine ⟨0, (a : Rat), by simp, by decide, by decide +kernel, h0, ?_, k0⟩
      constructor <;> grind
    · rw [if_neg c2]
      obtain ⟨q, r, hq, v, hw, q0, q1, r1⟩ := cur_v vd l1 l2 hp hp2 i (by omega) (by omega)
      obtain ⟨_, ⟨v', hv, hw'⟩, hy⟩ := res_pt v hw q0 q1 vd l1 l2 h0 h1 ha hb k0 k1
      exact ⟨q, v', hq, q0, Rat.le_trans q1 l4, hv, hw', hy⟩

structure ResTest (px py x0 y0 p : Nat) (L i : Int) : Prop where
  n : neF py y0 = false
  s : FOk .sub px x0
  m : FOk .mul (fl L) (fl i)
  q : FOk .quo (fop .mul (fl L) (fl i)) (fl p)
  t : FOk .sub (fop .sub px x0) (fop .quo (fop .mul (fl L) (fl i)) (fl p))
  g : gtF (absF (fop .sub (fop .sub px x0) (fop .quo (fop .mul (fl L) (fl i)) (fl p)))) 4517329193108106637 = false
theorem res_test {x0 y0 x1 y1 p : Nat} {a b L : Int} (h : AxisEnds x0 y0 x1 y1 a b L) (hp : 1 ≤ p) (hp2 : p ≤ 100) (i : Nat) (hi : i ≤ p) (hl : i < (resOut x0 y0 x1 y1 p).length) :
    ResTest ((resOut x0 y0 x1 y1 p)[i]).1 ((resOut x0 y0 x1 y1 p)[i]).2 x0 y0 p L i := by
  obtain ⟨q, v, hq, q0, q1, hv, hw, hy⟩ := res_each h hp hp2 i hi hl
  obtain ⟨h0, k0, h1, k1, ha, hb, l1, l2⟩ := h
  have vp := fl_isV (n := (p : Int)) (by omega)
  have vL := fl_isV (n := L) (by omega)
  have vi := fl_isV (n := (i : Int)) (by omega)
  have b0 : 0 ≤ L * i := Int.mul_nonneg (by omega) (by omega)
  have b1 : L * i ≤ 500 * 101 := Int.mul_le_mul l2 (by omega) (by omega) (by omega)
  obtain ⟨o1, v1⟩ := mul_int vL vi (by omega)
  obtain ⟨o2, q', r', hq', v2, hw2, _, _⟩ := quot_near v1 vp (by omega) (by omega) b0 (by omega)
  obtain ⟨p1, p2, p3⟩ := int_pos (show (1 : Int) ≤ (p : Int) by omega)
  have hqq : q' = q := by
    have e : (q' - q) * ((p : Int) : Rat) = 0 := by grind
    rcases Rat.mul_eq_zero.1 e with e | e
    · grind
    · exact absurd e p3
  rw [hqq] at hw2
  obtain ⟨o3, o4, g⟩ := res_far hv hw h0 ha v2 hw2 q0 q1
  refine ⟨?_, o3, o1, o2, o4, g⟩
  rw [neF_int hy k0]
  exact decide_eq_false (fun c => c rfl)

/-- the small line of the law is told by three points -/
theorem ends_small : AxisEnds 0 0 4616189618054758400 0 0 0 4 :=
  ⟨zero_isV, zero_isV, by rw [show (4616189618054758400 : Nat) = fl 4 by kernel_rfl]; exact fl_isV (n := (0 + 4 : Int)) (by decide), zero_isV, by decide, by decide, by decide, by decide⟩
theorem res_small (b off cap : Nat) (w : World) (hb : b < w.heap.size) (hpt : PtsAt w b off [(0, 0), (4616189618054758400, 0)]) :
    Calls Try.prog 8 #[.slice (some ⟨b, off, none⟩) 2 cap, .int .i64 3] w (RetO w 24 (resOut 0 0 4616189618054758400 0 2)) :=
  resampled_c b off cap 0 0 4616189618054758400 0 2 4 0 0 w hb hpt ends_small (by decide) (by decide)

theorem small_at (w : World) (g : Nat) (x0 y0 x1 y1 : Nat) (h0 : w.cell? ⟨g, 0, none⟩ = some (.float .f64 x0)) (h1 : w.cell? ⟨g, 1, none⟩ = some (.float .f64 y0)) (h2 : w.cell? ⟨g, 2, none⟩ = some (.float .f64 x1)) (h3 : w.cell? ⟨g, 3, none⟩ = some (.float .f64 y1)) : PtsAt w g 0 [(x0, y0), (x1, y1)] := by
  intro i hi
  rcases (show i = 0 ∨ i = 1 by simp at hi; omega) with rfl | rfl
  · exact ⟨h0, h1⟩
  · exact ⟨h2, h3⟩

set_option maxRecDepth 20000 in
set_option maxHeartbeats 1000000 in
theorem resampled_no (x0 y0 : Nat) (long parts : Int) (k1 : x0 < 2 ^ 64) (k2 : y0 < 2 ^ 64) (hl : -9223372036854775808 ≤ long ∧ long ≤ 9223372036854775807) (hp : -9223372036854775808 ≤ parts ∧ parts ≤ 9223372036854775807) (w : World)
    (hno : pointB x0 y0 = false ∨ long < 1 ∨ 500 < long ∨ parts < 1 ∨ 100 < parts) :
    Calls Try.prog 3 #[.agg #[.float .f64 x0, .float .f64 y0], .int .i64 long, .int .i64 parts] w (Ret w (.bool true)) := by
  have S := Lib.hid res_small
  cases c1 : pointB x0 y0
  · clear hno
    go_enter Try.func3, Try.ntmps3
    go_wp2_with (first | (go_at_call 9; (first | (with_reducible refine (Ret.at_ext (point_c _ _ (by assumption) (by assumption) _)).mono ?_) | (with_reducible refine (point_c _ _ (by assumption) (by assumption) _).mono ?_)); rintro e w' ⟨rfl, u, rfl⟩) | (go_at_call 8; (with_reducible refine (S.out _ 0 _ _ (by simp) (small_at _ _ _ _ _ _ (by simp) (by simp) (by simp) (by simp))).mono ?_); rintro e w1 ⟨v, u, rfl, hu, hpn⟩; obtain ⟨a', cap', rfl, _⟩ := hpn.in; simp only [resOut_length]))
    go_ret
    exact Ret.mk rfl (by repeat (first | (with_reducible exact Kp.refl _) | (with_reducible assumption) | (with_reducible apply Kp.ext) | (with_reducible apply Kp.alloc) | (with_reducible apply Kp.drew) | (with_reducible apply Kp.drewN) | (with_reducible refine Kp.setCell ?_ (by first | (dsimp only; omega) | (simp; omega) | (simp; done) | (simp [size_ext_eq]; omega)) _)))
  · simp only [c1, Bool.true_eq_false, false_or] at hno
    by_cases d0 : long < 1
    · have e0 : (long < 1) = True := eq_true d0
      clear hno d0
      go_enter Try.func3, Try.ntmps3
      go_wp2_with (first | (go_at_call 9; (first | (with_reducible refine (Ret.at_ext (point_c _ _ (by assumption) (by assumption) _)).mono ?_) | (with_reducible refine (point_c _ _ (by assumption) (by assumption) _).mono ?_)); rintro e w' ⟨rfl, u, rfl⟩) | (go_at_call 8; (with_reducible refine (S.out _ 0 _ _ (by simp) (small_at _ _ _ _ _ _ (by simp) (by simp) (by simp) (by simp))).mono ?_); rintro e w1 ⟨v, u, rfl, hu, hpn⟩; obtain ⟨a', cap', rfl, _⟩ := hpn.in; simp only [resOut_length]))
      go_ret
      exact Ret.mk rfl (by repeat (first | (with_reducible exact Kp.refl _) | (with_reducible assumption) | (with_reducible apply Kp.ext) | (with_reducible apply Kp.alloc) | (with_reducible apply Kp.drew) | (with_reducible apply Kp.drewN) | (with_reducible refine Kp.setCell ?_ (by first | (dsimp only; omega) | (simp; omega) | (simp; done) | (simp [size_ext_eq]; omega)) _)))
    · have e0 : (long < 1) = False := eq_false d0
      by_cases d1 : 500 < long
      · have e1 : (500 < long) = True := eq_true d1
        clear hno d1
        go_enter Try.func3, Try.ntmps3
        go_wp2_with (first | (go_at_call 9; (first | (with_reducible refine (Ret.at_ext (point_c _ _ (by assumption) (by assumption) _)).mono ?_) | (with_reducible refine (point_c _ _ (by assumption) (by assumption) _).mono ?_)); rintro e w' ⟨rfl, u, rfl⟩) | (go_at_call 8; (with_reducible refine (S.out _ 0 _ _ (by simp) (small_at _ _ _ _ _ _ (by simp) (by simp) (by simp) (by simp))).mono ?_); rintro e w1 ⟨v, u, rfl, hu, hpn⟩; obtain ⟨a', cap', rfl, _⟩ := hpn.in; simp only [resOut_length]))
        go_ret
        exact Ret.mk rfl (by repeat (first | (with_reducible exact Kp.refl _) | (with_reducible assumption) | (with_reducible apply Kp.ext) | (with_reducible apply Kp.alloc) | (with_reducible apply Kp.drew) | (with_reducible apply Kp.drewN) | (with_reducible refine Kp.setCell ?_ (by first | (dsimp only; omega) | (simp; omega) | (simp; done) | (simp [size_ext_eq]; omega)) _)))
      · have e1 : (500 < long) = False := eq_false d1
        by_cases d2 : parts < 1
        · have e2 : (parts < 1) = True := eq_true d2
          clear hno d2
          go_enter Try.func3, Try.ntmps3
          go_wp2_with (first | (go_at_call 9; (first | (with_reducible refine (Ret.at_ext (point_c _ _ (by assumption) (by assumption) _)).mono ?_) | (with_reducible refine (point_c _ _ (by assumption) (by assumption) _).mono ?_)); rintro e w' ⟨rfl, u, rfl⟩) | (go_at_call 8; (with_reducible refine (S.out _ 0 _ _ (by simp) (small_at _ _ _ _ _ _ (by simp) (by simp) (by simp) (by simp))).mono ?_); rintro e w1 ⟨v, u, rfl, hu, hpn⟩; obtain ⟨a', cap', rfl, _⟩ := hpn.in; simp only [resOut_length]))
          go_ret
          exact Ret.mk rfl (by repeat (first | (with_reducible exact Kp.refl _) | (with_reducible assumption) | (with_reducible apply Kp.ext) | (with_reducible apply Kp.alloc) | (with_reducible apply Kp.drew) | (with_reducible apply Kp.drewN) | (with_reducible refine Kp.setCell ?_ (by first | (dsimp only; omega) | (simp; omega) | (simp; done) | (simp [size_ext_eq]; omega)) _)))
        · have e2 : (parts < 1) = False := eq_false d2
          have e3 : (100 < parts) = True := eq_true (by omega)
          clear hno d0 d1 d2
          go_enter Try.func3, Try.ntmps3
          go_wp2_with (first | (go_at_call 9; (first | (with_reducible refine (Ret.at_ext (point_c _ _ (by assumption) (by assumption) _)).mono ?_) | (with_reducible refine (point_c _ _ (by assumption) (by assumption) _).mono ?_)); rintro e w' ⟨rfl, u, rfl⟩) | (go_at_call 8; (with_reducible refine (S.out _ 0 _ _ (by simp) (small_at _ _ _ _ _ _ (by simp) (by simp) (by simp) (by simp))).mono ?_); rintro e w1 ⟨v, u, rfl, hu, hpn⟩; obtain ⟨a', cap', rfl, _⟩ := hpn.in; simp only [resOut_length]))
          go_ret
          exact Ret.mk rfl (by repeat (first | (with_reducible exact Kp.refl _) | (with_reducible assumption) | (with_reducible apply Kp.ext) | (with_reducible apply Kp.alloc) | (with_reducible apply Kp.drew) | (with_reducible apply Kp.drewN) | (with_reducible refine Kp.setCell ?_ (by first | (dsimp only; omega) | (simp; omega) | (simp; done) | (simp [size_ext_eq]; omega)) _)))

set_option maxRecDepth 20000 in
set_option maxHeartbeats 2000000 in
theorem resampled_yes (x0 y0 p : Nat) (L : Int) (k1 : x0 < 2 ^ 64) (k2 : y0 < 2 ^ 64) (w : World) (c1 : pointB x0 y0 = true) (hL : 1 ≤ L) (hL2 : L ≤ 500) (hp : 1 ≤ p) (hp2 : p ≤ 100) :
    Calls Try.prog 3 #[.agg #[.float .f64 x0, .float .f64 y0], .int .i64 L, .int .i64 p] w (Ret w (.bool true)) := by
  have S := Lib.hid res_small
  obtain ⟨a, b, i1, i2, ha, hb⟩ := pointB_int k1 k2 c1
  obtain ⟨oa, va⟩ := add_int i1 (fl_isV (n := L) (by omega)) (by omega)
  have hE : AxisEnds x0 y0 (fop .add x0 (fl L)) y0 a b L := ⟨i1, i2, va, i2, ha, hb, hL, hL2⟩
  have E := Lib.hid (fun b off cap w' hb' hpt => resampled_c b off cap x0 y0 (fop .add x0 (fl L)) y0 p L a _ w' hb' hpt hE hp hp2)
  have T := Lib.hid (fun i hi hl => res_test hE hp hp2 i hi hl)
  have G := Lib.hid (resOut_get x0 y0 (fop .add x0 (fl L)) y0 p)
  have q1 : (eqF x0 x0 && eqF y0 y0) = true := by rw [eqF_isV i1 i1, eqF_isV i2 i2]; simp
  have q2 : (eqF (fop .add x0 (fl L)) (fop .add x0 (fl L)) && eqF y0 y0) = true := by rw [eqF_isV va va, eqF_isV i2 i2]; simp
  have n1 := fun w' => run_neq_pt x0 y0 x0 y0 w'
  have n2 := fun w' => run_neq_pt (fop .add x0 (fl L)) y0 (fop .add x0 (fl L)) y0 w'
  rw [q1] at n1
  rw [q2] at n2
  have hfl : ∀ n : Int, floatOfInt .f64 n = fl n := fun _ => rfl
  have e1 : (L < 1) = False := eq_false (by omega)
  have e2 : (500 < L) = False := eq_false (by omega)
  have e3 : ((p : Int) < 1) = False := eq_false (by omega)
  have e4 : (100 < (p : Int)) = False := eq_false (by omega)
  clear i1 i2 va hE q1 q2
  go_enter Try.func3, Try.ntmps3
  go_wp2_with (first | (go_at_call 9; (first | (with_reducible refine (Ret.at_ext (point_c _ _ (by assumption) (by assumption) _)).mono ?_) | (with_reducible refine (point_c _ _ (by assumption) (by assumption) _).mono ?_)); rintro e w' ⟨rfl, u, rfl⟩) | (go_at_call 8; (with_reducible refine (S.out _ 0 _ _ (by simp) (small_at _ _ _ _ _ _ (by simp) (by simp) (by simp) (by simp))).mono ?_); rintro e w1 ⟨v, u, rfl, hu, hpn⟩; obtain ⟨a', cap', rfl, _⟩ := hpn.in; simp only [resOut_length]))
  clear hu hpn S
  go_region
  go_wp2_with (go_at_call 8; (with_reducible refine (E.out _ 0 _ _ (by simp [size_ext_eq]; omega) (small_at _ _ _ _ _ _ (by simp [cell_ext]) (by simp [cell_ext]) (by simp [cell_ext]) (by simp [cell_ext]))).mono ?_); rintro e w2 ⟨v, u2, rfl, hu, hpn⟩; simp only [resOut_length])
  have hk2 : Kp w w2 := by rw [hu]; exact (by repeat (first | (with_reducible exact Kp.refl _) | (with_reducible assumption) | (with_reducible apply Kp.ext) | (with_reducible apply Kp.alloc) | (with_reducible apply Kp.drew) | (with_reducible apply Kp.drewN) | (with_reducible refine Kp.setCell ?_ (by first | (dsimp only; omega) | (simp; omega) | (simp; done) | (simp [size_ext_eq]; omega)) _)))
  have m2 : NewPt w w2 w.heap.size x0 y0 := by rw [hu]; exact (by repeat (first | assumption | ((with_reducible refine NewPt.at ?_ _ _ _ ?_) <;> (first | (simp; done) | (simp; omega) | omega | (simp [size_ext_eq]; done) | (simp [size_ext_eq]; omega))) | (with_reducible apply NewPt.alloc) | (with_reducible apply NewPt.drew) | (with_reducible apply NewPt.drewN) | (with_reducible apply NewPt.ext) | (with_reducible exact NewPt.store (by assumption) _ _) | (with_reducible refine NewPt.other ?_ (by omega) _ _)))
  obtain ⟨g, cap, hv, hg1, hg2, _, _, hpt⟩ := hpn.form (by rw [resOut_length]; omega)
  rw [resOut_length] at hv
  subst hv
  try rw [← hu]
  clear hu hpn E
  have lo : 0 < (resOut x0 y0 (fop .add x0 (fl L)) y0 p).length := by rw [resOut_length]; omega
  have lp : p < (resOut x0 y0 (fop .add x0 (fl L)) y0 p).length := by rw [resOut_length]; omega
  have hk0 : ((p : Int) + 1 == (p : Int) + 1) = true := by simp
  obtain ⟨_, i2, x2, y2, z2, z3⟩ := id m2
  obtain ⟨a0, a1⟩ := hpt 0 lo
  obtain ⟨b0, b1⟩ := hpt p lp
  rw [G.out 0 hp lo, if_neg (by omega), if_pos rfl] at a0 a1
  rw [G.out p hp lp, if_pos rfl] at b0 b1
  simp only [Nat.zero_mul, Nat.add_zero, Nat.zero_add] at a0 a1 b0 b1
  go_wp2_with fail
  first | (with_reducible refine wp_region_ext_lit2 ?_ ?_ ?_) | refine wp_region_ext_lit ?_ ?_ ?_
  kernel_rfl
  kernel_rfl
  repeat (go_big_quiet_step (fail))
  refine wpQuiet_nil ?_
  rintro _ ⟨u, rfl⟩
  go_wp2_with fail
  have hkq : Kp w (ext w2 u) := hk2.ext _
  have mq := m2.ext u
  have Hpt := Lib.hid (hpt.kp hg2 ((Kp.refl w2).ext u))
  have hgq : g < (ext w2 u).heap.size := Nat.lt_of_lt_of_le hg2 ((Kp.refl w2).ext u).size
  clear a0 a1 b0 b1 x2 y2 z2 z3 i2 hpt m2 hk2 hg2 n1 n2 hk0 lo lp
  obtain ⟨wq, hwq⟩ : ∃ wq, wq = ext w2 u := ⟨_, rfl⟩
  rw [← hwq] at hkq mq Hpt hgq ⊢
  clear hwq
  go_loopw [85] (fun s85 wr => ∃ k : Nat, k ≤ p + 1 ∧ s85 = .int .i64 k ∧ Kp wq wr) (fun s85 _ => p + 1 - (intOf s85).toNat)
  case atStart => exact ⟨0, by omega, rfl, Kp.refl _⟩
  case round =>
    obtain ⟨k, hk, rfl, hkr⟩ := hrel
    have hkw := hkq.trans hkr
    by_cases hlt : k < p + 1
    · have lk : k < (resOut x0 y0 (fop .add x0 (fl L)) y0 p).length := by rw [resOut_length]; omega
      obtain ⟨a0, a1⟩ := Hpt.out.kp hgq hkr k lk
      obtain ⟨t1, t2, t3, t4, t5, t6⟩ := T.out k (by omega) lk
      obtain ⟨_, i2, x2, y2, z2, z3⟩ := mq.kp hkr
      obtain ⟨⟨px, py⟩, hq⟩ : ∃ q, (resOut x0 y0 (fop .add x0 (fl L)) y0 p)[k]'lk = q := ⟨_, rfl⟩
      simp only [hq, Nat.zero_add] at a0 a1 t1 t2 t3 t4 t5 t6
      have hgr : g < wr.heap.size := Nat.lt_of_lt_of_le hgq hkr.size
      clear hq
      go_wp2_with (go_at_call 10; (first | (with_reducible refine (Ret.at_ext (abs_c _ _)).mono ?_) | (with_reducible refine (abs_c _ _).mono ?_)); rintro e w' ⟨rfl, u, rfl⟩)
      go_roundw
      case rel => exact ⟨k + 1, by omega, by go_num, (by repeat (first | (with_reducible exact Kp.refl _) | (with_reducible assumption) | (with_reducible apply Kp.ext) | (with_reducible apply Kp.alloc) | (with_reducible apply Kp.drew) | (with_reducible apply Kp.drewN) | (with_reducible refine Kp.setCell ?_ (by first | (dsimp only; omega) | (simp; omega) | (simp; done) | (simp [size_ext_eq]; omega)) _)))⟩
      case measure => simp [intOf]; omega
    · obtain rfl : k = p + 1 := by omega
      go_wp2_with fail
      go_ret
      exact Ret.mk rfl (by repeat (first | (with_reducible exact Kp.refl _) | (with_reducible assumption) | (with_reducible apply Kp.ext) | (with_reducible apply Kp.alloc) | (with_reducible apply Kp.drew) | (with_reducible apply Kp.drewN) | (with_reducible refine Kp.setCell ?_ (by first | (dsimp only; omega) | (simp; omega) | (simp; done) | (simp [size_ext_eq]; omega)) _)))

theorem resampled_walk (x0 y0 : Nat) (long parts : Int) (k1 : x0 < 2 ^ 64) (k2 : y0 < 2 ^ 64) (hl : -9223372036854775808 ≤ long ∧ long ≤ 9223372036854775807) (hp : -9223372036854775808 ≤ parts ∧ parts ≤ 9223372036854775807) (w : World) :
    Calls Try.prog 3 #[.agg #[.float .f64 x0, .float .f64 y0], .int .i64 long, .int .i64 parts] w (Ret w (.bool true)) := by
  by_cases c : pointB x0 y0 = true ∧ 1 ≤ long ∧ long ≤ 500 ∧ 1 ≤ parts ∧ parts ≤ 100
  · obtain ⟨c1, c2, c3, c4, c5⟩ := c
    obtain ⟨p, rfl⟩ : ∃ p : Nat, parts = (p : Int) := ⟨parts.toNat, by omega⟩
    exact resampled_yes x0 y0 p long k1 k2 w c1 c2 c3 (by omega) (by omega)
  · refine resampled_no x0 y0 long parts k1 k2 hl hp w ?_
    cases c1 : pointB x0 y0
    · exact .inl rfl
    · right
      rw [c1] at c
      simp only [true_and] at c
      omega
end Go.Proofs.Ytighomobiepknaa
