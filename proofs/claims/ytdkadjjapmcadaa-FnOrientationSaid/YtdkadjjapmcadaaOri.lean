/-
  Ring.Orientation and impl.Orientation on whole numbers.
-/
import Derived.Test.YtdkadjjapmcadaaTurn
namespace Go.Proofs.Ytdkadjjapmcadaa
open PubFl Go.RowKit

attribute [local go_sem] cell_ext frozen_ext ext_setCell cell_store size_ext_eq lt_p0 lt_p1 lt_p2 lt_p3 lt_p4 lt_p5 lt_p6 lt_p7 lt_p8 lt_p9 lt_p10 lt_p11 lt_p12 lt_p13 lt_p14 lt_p15 lt_p16 lt_p17 lt_p18 lt_p19 lt_p20 lt_p21 lt_p22 lt_p23 lt_p24 lt_p25 lt_p26 lt_p27 lt_p28 lt_p29 lt_p30 lt_p31 lt_p32 lt_q1 lt_q2 lt_q3 lt_q4 lt_q5 lt_q6 lt_q7 lt_q8 lt_q9 lt_q10 lt_q11 lt_q12 lt_q13 lt_q14 lt_q15 lt_q16 lt_q17 lt_q18 lt_q19 lt_q20 lt_q21 lt_q22 lt_q23 lt_q24 lt_q25 lt_q26 lt_q27 lt_q28 lt_q29 lt_q30 lt_q31 lt_q32 run_fop run_store_float
attribute [local go_sem high] cmp_eql cmp_neq cmp_lss cmp_leq cmp_gtr cmp_geq

set_option maxRecDepth 20000 in
set_option maxHeartbeats 1000000 in
theorem ring_orientation_c (b off cap : Nat) (ps : List (Nat × Nat)) (hn : ps.length ≤ 1000) (hpos : 2 ≤ ps.length) (w : World) (hb : b < w.heap.size) (hpt : PtsAt w b off ps) (x y : Nat → Int) (hi : IntPts ps x y) :
    Calls Try.prog 52 #[.slice (some ⟨b, off, none⟩) ps.length cap] w (Ret w (.int .i8 (sgn (sumTo (offT x y) (ps.length - 2))))) := by
  obtain ⟨a0, a1⟩ := hpt 0 (by omega)
  obtain ⟨u0, u1, r0, r1⟩ := hi 0 (by omega)
  obtain ⟨⟨ox, oy⟩, hq0⟩ : ∃ q, ps[0]'(by omega) = q := ⟨_, rfl⟩
  rw [hq0] at a0 a1 u0 u1
  simp only [Nat.zero_mul, Nat.add_zero] at a0 a1
  clear hq0
  obtain ⟨l, hl⟩ : ∃ l : Nat, ps.length = l + 2 := ⟨ps.length - 2, by omega⟩
  have hsum : ((ps.length : Int) - 1) = (l : Int) + 1 := by omega
  have hw2 : IntKind.i64.wrap ((l : Int) + 1) = (l : Int) + 1 := wrap_in _ (by omega) (by omega)
  have hl1 : ((0 : Int) < (ps.length : Int)) := by omega
  rw [show ps.length - 2 = l by omega]
  go_enter Try.func52, Try.ntmps52
  go_wp2_with fail
  go_loopw [3, 6] (fun s3 s6 wr => ∃ (k s : Nat), k ≤ l ∧ s3 = .float .f64 s ∧ s6 = .int .i64 ((k : Int) + 1) ∧ IsV s (sumTo (offT x y) k : Int) ∧ Kp w wr) (fun _ s6 _ => ps.length - (intOf s6).toNat)
  case atStart => exact ⟨0, 0, by omega, rfl, rfl, zero_isV, (by repeat (first | (with_reducible exact Kp.refl _) | (with_reducible assumption) | (with_reducible apply Kp.ext) | (with_reducible apply Kp.alloc) | (with_reducible apply Kp.drew) | (with_reducible apply Kp.drewN) | (with_reducible refine Kp.setCell ?_ (by first | (dsimp only; omega) | (simp; omega) | (simp; done) | (simp [size_ext_eq]; omega)) _)))⟩
  case round =>
    obtain ⟨k, s, hkn, rfl, rfl, hsv, hkp⟩ := hrel
    by_cases hlt : k < l
    · obtain ⟨e0, e1⟩ := hpt.kp hb hkp (k + 1) (by omega)
      obtain ⟨f0, f1⟩ := hpt.kp hb hkp (k + 2) (by omega)
      obtain ⟨v0, v1, c1, c2⟩ := hi (k + 1) (by omega)
      obtain ⟨v2, v3, c3, c4⟩ := hi (k + 2) (by omega)
      have hoff : ∀ i, i ≤ k → (-4000000 ≤ (x (i + 1) - x 0) * (y (i + 2) - y 0) ∧ (x (i + 1) - x 0) * (y (i + 2) - y 0) ≤ 4000000) ∧ (-4000000 ≤ (x (i + 2) - x 0) * (y (i + 1) - y 0) ∧ (x (i + 2) - x 0) * (y (i + 1) - y 0) ≤ 4000000) := fun i hik => by
        obtain ⟨_, _, d1, d2⟩ := hi (i + 1) (by omega)
        obtain ⟨_, _, d3, d4⟩ := hi (i + 2) (by omega)
        have h1 := mul_le_sq (m := 2000) (a := x (i + 1) - x 0) (b := y (i + 2) - y 0) (by omega) (by omega)
        have h2 := mul_le_sq (m := 2000) (a := x (i + 2) - x 0) (b := y (i + 1) - y 0) (by omega) (by omega)
        omega
      have hsm := sumTo_abs (t := offT x y) (m := 8000000) (n := k) fun i hik => by
        have := hoff i (by omega)
        unfold offT; omega
      have hk1000 : (k : Int) ≤ 1000 := by omega
      have hstep : sumTo (offT x y) (k + 1) = sumTo (offT x y) k + ((x (k + 1) - x 0) * (y (k + 2) - y 0) - (x (k + 2) - x 0) * (y (k + 1) - y 0)) := rfl
      have hok := hoff k (Nat.le_refl _)
      obtain ⟨m1, n1⟩ := sub_int v0 u0 (by omega)
      obtain ⟨m2, n2⟩ := sub_int v3 u1 (by omega)
      obtain ⟨m3, n3⟩ := sub_int v2 u0 (by omega)
      obtain ⟨m4, n4⟩ := sub_int v1 u1 (by omega)
      obtain ⟨m5, n5⟩ := mul_int n1 n2 (by omega)
      obtain ⟨m6, n6⟩ := mul_int n3 n4 (by omega)
      obtain ⟨m7, n7⟩ := sub_int n5 n6 (by omega)
      obtain ⟨m8, n8⟩ := add_int hsv n7 (by omega)
      rw [← hstep] at n8
      obtain ⟨⟨px, py⟩, hq⟩ : ∃ q, ps[k + 1]'(by omega) = q := ⟨_, rfl⟩
      obtain ⟨⟨qx, qy⟩, hq'⟩ : ∃ q, ps[k + 2]'(by omega) = q := ⟨_, rfl⟩
      simp only [hq, hq'] at e0 e1 f0 f1 m1 m2 m3 m4 m5 m6 m7 m8 n8
      have hbk : b < wr.heap.size := Nat.lt_of_lt_of_le hb hkp.size
      have hk2 : (0 : Int) ≤ (k : Int) + 1 := by omega
      have hk3 : ((k : Int) + 1 < (l : Int) + 1) = True := eq_true (by omega)
      have hk3' : (k : Int) < (l : Int) := by omega
      have hk4 : ((k : Int) + 1).toNat = k + 1 := by omega
      have hk5 : ((k : Int) + 1 + 1).toNat = k + 2 := by omega
      have hk6 : (0 : Int) ≤ (k : Int) + 1 + 1 := by omega
      have hk7 : ((k : Int) + 1 < (ps.length : Int)) := by omega
      have hk8 : ((k : Int) + 1 + 1 < (ps.length : Int)) := by omega
      have hw3 : IntKind.i64.wrap ((k : Int) + 1 + 1) = (k : Int) + 1 + 1 := wrap_in _ (by omega) (by omega)
      clear hq hq' hsm hstep c1 c2 c3 c4 v0 v1 v2 v3 n1 n2 n3 n4 n5 n6 n7 hoff hok hl
      go_wp2_with fail
      first | (with_reducible refine wp_region_ext_lit2 ?_ ?_ ?_) | refine wp_region_ext_lit ?_ ?_ ?_
      kernel_rfl
      kernel_rfl
      repeat (go_big_quiet_step (fail))
      refine wpQuiet_nil ?_
      rintro _ ⟨u, rfl⟩
      go_wp2_with fail
      go_roundw
      case rel => exact ⟨k + 1, _, by omega, rfl, by go_num, n8, (by repeat (first | (with_reducible exact Kp.refl _) | (with_reducible assumption) | (with_reducible apply Kp.ext) | (with_reducible apply Kp.alloc) | (with_reducible apply Kp.drew) | (with_reducible apply Kp.drewN) | (with_reducible refine Kp.setCell ?_ (by first | (dsimp only; omega) | (simp; omega) | (simp; done) | (simp [size_ext_eq]; omega)) _)))⟩
      case measure => simp [intOf]; omega
    · have hk3 : ((k : Int) + 1 < (l : Int) + 1) = False := eq_false (by omega)
      have hk3' : ((k : Int) < (l : Int)) = False := eq_false (by omega)
      have hk : k = l := by omega
      rw [hk] at hsv
      have g1 : gtF s 0 = decide (0 < sumTo (offT x y) l) := gtF_int hsv zero_isV
      have g2 : ltF s 0 = decide (sumTo (offT x y) l < 0) := ltF_int hsv zero_isV
      generalize sumTo (offT x y) l = n at *
      by_cases h1 : 0 < n
      · rw [decide_eq_true h1] at g1
        have hsg : sgn n = 1 := by unfold sgn; rw [if_pos h1]
        have Hs := Lib.hid hsg
        clear hsg
        go_wp2_with fail
        go_ret
        exact Ret.mk (by rw [Hs.out]; rfl) (by repeat (first | (with_reducible exact Kp.refl _) | (with_reducible assumption) | (with_reducible apply Kp.ext) | (with_reducible apply Kp.alloc) | (with_reducible apply Kp.drew) | (with_reducible apply Kp.drewN) | (with_reducible refine Kp.setCell ?_ (by first | (dsimp only; omega) | (simp; omega) | (simp; done) | (simp [size_ext_eq]; omega)) _)))
      · rw [decide_eq_false h1] at g1
        by_cases h2 : n < 0
        · rw [decide_eq_true h2] at g2
          have hsg : sgn n = -1 := by unfold sgn; rw [if_neg h1, if_pos h2]
          have Hs := Lib.hid hsg
          clear hsg
          go_wp2_with fail
          go_ret
          exact Ret.mk (by rw [Hs.out]; rfl) (by repeat (first | (with_reducible exact Kp.refl _) | (with_reducible assumption) | (with_reducible apply Kp.ext) | (with_reducible apply Kp.alloc) | (with_reducible apply Kp.drew) | (with_reducible apply Kp.drewN) | (with_reducible refine Kp.setCell ?_ (by first | (dsimp only; omega) | (simp; omega) | (simp; done) | (simp [size_ext_eq]; omega)) _)))
        · rw [decide_eq_false h2] at g2
          have hsg : sgn n = 0 := by unfold sgn; rw [if_neg h1, if_neg h2]
          have Hs := Lib.hid hsg
          clear hsg
          go_wp2_with fail
          go_ret
          exact Ret.mk (by rw [Hs.out]; rfl) (by repeat (first | (with_reducible exact Kp.refl _) | (with_reducible assumption) | (with_reducible apply Kp.ext) | (with_reducible apply Kp.alloc) | (with_reducible apply Kp.drew) | (with_reducible apply Kp.drewN) | (with_reducible refine Kp.setCell ?_ (by first | (dsimp only; omega) | (simp; omega) | (simp; done) | (simp [size_ext_eq]; omega)) _)))

theorem orientation_c (a : Option Addr) (cap : Nat) (ps : List (Nat × Nat)) (hn : ps.length ≤ 1000) (hpos : 2 ≤ ps.length) (w : World) (hs : PtsIn w a ps) (x y : Nat → Int) (hi : IntPts ps x y) :
    Calls Try.prog 25 #[.slice a ps.length cap] w (Ret w (.int .i64 (sgn (sumTo (offT x y) (ps.length - 2))))) := by
  have hsg : ∀ n, sgn n = 1 ∨ sgn n = -1 ∨ sgn n = 0 := fun n => by unfold sgn; split <;> (try split) <;> simp
  have hn' : ps.length ≤ 2147483647 := by omega
  go_enter Try.func25, Try.ntmps25
  go_wp2_with (go_at_call 44; refine (pointsOf_c _ _ _ hn' _ hs).mono ?_; rintro e w1 ⟨v, u, rfl, hu, hp⟩)
  have hk1 : Kp w w1 := by rw [hu]; exact (by repeat (first | (with_reducible exact Kp.refl _) | (with_reducible assumption) | (with_reducible apply Kp.ext) | (with_reducible apply Kp.alloc) | (with_reducible apply Kp.drew) | (with_reducible apply Kp.drewN) | (with_reducible refine Kp.setCell ?_ (by first | (dsimp only; omega) | (simp; omega) | (simp; done) | (simp [size_ext_eq]; omega)) _)))
  rw [← hu]
  clear hu
  obtain ⟨g, cap', rfl, hg1, hg2, _, _, hpt⟩ := hp.form (by omega)
  have hc := ring_orientation_c g 0 cap' ps hn hpos w1 hg2 hpt x y hi
  generalize sumTo (offT x y) (ps.length - 2) = n at *
  rcases hsg n with h | h | h <;> rw [h] at hc <;> have Hc := Lib.hid hc <;> have Hn := Lib.hid h <;> clear hsg h hc
  all_goals go_wp2_with (go_at_call 52; (first | (with_reducible refine (Ret.at_ext (Hc.out)).mono ?_) | refine (Hc.out).mono ?_); rintro e w' ⟨rfl, u, rfl⟩)
  all_goals (go_ret; exact Ret.mk (by rw [Hn.out]; rfl) (by repeat (first | (with_reducible exact Kp.refl _) | (with_reducible assumption) | (with_reducible apply Kp.ext) | (with_reducible apply Kp.alloc) | (with_reducible apply Kp.drew) | (with_reducible apply Kp.drewN) | (with_reducible refine Kp.setCell ?_ (by first | (dsimp only; omega) | (simp; omega) | (simp; done) | (simp [size_ext_eq]; omega)) _))))
end Go.Proofs.Ytdkadjjapmcadaa
