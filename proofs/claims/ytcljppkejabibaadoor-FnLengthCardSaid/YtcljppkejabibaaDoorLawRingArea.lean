/-
  laws.FnRingArea, walked: it answers true.
-/
import Derived.Test.YtcljppkejabibaaDoorMeas
import Derived.Test.YtcljppkejabibaaDoorLawBox
import Derived.Deep.Slices
namespace Go.Proofs.YtcljppkejabibaaDoor
open PubFl Go.RowKit

attribute [local go_sem] cell_ext frozen_ext ext_setCell cell_store size_ext_eq lt_p0 lt_p1 lt_p2 lt_p3 lt_p4 lt_p5 lt_p6 lt_p7 lt_p8 lt_p9 lt_p10 lt_p11 lt_p12 lt_p13 lt_p14 lt_p15 lt_p16 lt_p17 lt_p18 lt_p19 lt_p20 lt_p21 lt_p22 lt_p23 lt_p24 lt_p25 lt_p26 lt_p27 lt_p28 lt_p29 lt_p30 lt_p31 lt_p32 lt_q1 lt_q2 lt_q3 lt_q4 lt_q5 lt_q6 lt_q7 lt_q8 lt_q9 lt_q10 lt_q11 lt_q12 lt_q13 lt_q14 lt_q15 lt_q16 lt_q17 lt_q18 lt_q19 lt_q20 lt_q21 lt_q22 lt_q23 lt_q24 lt_q25 lt_q26 lt_q27 lt_q28 lt_q29 lt_q30 lt_q31 lt_q32 run_fop run_store_float
attribute [local go_sem high] cmp_eql cmp_neq cmp_lss cmp_leq cmp_gtr cmp_geq

theorem ring_ints' (ps : List (Nat × Nat)) (hbits : Bits ps) (h : ringB ps = true) : ps.length ≤ 100 ∧ 4 ≤ ps.length ∧ ∃ x y : Nat → Int, IntPts ps x y ∧ x (ps.length - 1) = x 0 ∧ y (ps.length - 1) = y 0 := by
  unfold ringB arePtsB at h
  simp only [Bool.and_eq_true, decide_eq_true_eq, List.all_eq_true] at h
  obtain ⟨⟨h4, hall, hle⟩, hm⟩ := h
  have hp : ∀ i, i < ps.length → ∃ q : Int × Int, IsV (ps.getD i (0, 0)).1 q.1 ∧ IsV (ps.getD i (0, 0)).2 q.2 ∧ (-1000 ≤ q.1 ∧ q.1 ≤ 1000) ∧ (-1000 ≤ q.2 ∧ q.2 ≤ 1000) := fun i hi => by
    rw [getD_in _ _ hi]
    obtain ⟨g0, g1⟩ := hbits i hi
    obtain ⟨a, b, h1, h2, h3, h4⟩ := pointB_int g0 g1 (hall _ (List.getElem_mem hi))
    exact ⟨(a, b), h1, h2, h3, h4⟩
  obtain ⟨q, hq⟩ := Go.Deep.choose_lt hp
  refine ⟨by omega, h4, fun i => (q i).1, fun i => (q i).2, fun i hi => by have := hq i hi; rwa [getD_in _ _ hi] at this, ?_, ?_⟩
  all_goals
    unfold meetsB at hm
    simp only [Bool.and_eq_true] at hm
    obtain ⟨a1, a2, _⟩ := hq 0 (by omega)
    obtain ⟨b1, b2, _⟩ := hq (ps.length - 1) (by omega)
    rw [eqF_int a1 b1, eqF_int a2 b2] at hm
    simp only [decide_eq_true_eq] at hm
    dsimp only
    omega

set_option maxRecDepth 20000 in
set_option maxHeartbeats 1000000 in
theorem ringArea_walk (a : Option Addr) (cap : Nat) (ps : List (Nat × Nat)) (hmax : ps.length ≤ maxLen) (w : World) (hs : PtsIn w a ps) (hbits : Bits ps) :
    Calls Tryd.prog 3 #[.slice a ps.length cap] w (Ret w (.bool true)) := by
  go_enter Tryd.func3, Tryd.ntmps3
  by_cases hbig : 2147483647 < ps.length
  · have h1 : ((2147483647 : Int) < (ps.length : Int)) = True := eq_true (by omega)
    go_wp2_with fail
    go_ret
    exact Ret.mk rfl (by repeat (first | (with_reducible exact Kp.refl _) | (with_reducible assumption) | (with_reducible apply Kp.ext) | (with_reducible apply Kp.alloc) | (with_reducible apply Kp.drew) | (with_reducible apply Kp.drewN) | (with_reducible refine Kp.setCell ?_ (by first | (dsimp only; omega) | (simp; omega) | (simp; done) | (simp [size_ext_eq]; omega)) _)))
  have h1 : ((2147483647 : Int) < (ps.length : Int)) = False := eq_false (by omega)
  have hn : ps.length ≤ 2147483647 := by omega
  have hc := fun w' (hk : Kp w w') => isRing_c a cap ps hn w' (hs.kp hk) hbits
  cases hR : ringB ps
  · rw [hR] at hc
    have Hc := Lib.hid hc
    clear hc hR
    go_wp2_with (first | (go_at_call 8; (first | (with_reducible refine (Ret.at_ext (measures_c _)).mono ?_) | (with_reducible refine (measures_c _).mono ?_)); rintro e w' ⟨rfl, u, rfl⟩) | (go_at_call 9; (first | (with_reducible refine (Ret.at_ext (Hc.out _ (by repeat (first | (with_reducible exact Kp.refl _) | (with_reducible assumption) | (with_reducible apply Kp.ext) | (with_reducible apply Kp.alloc) | (with_reducible apply Kp.drew) | (with_reducible apply Kp.drewN) | (with_reducible refine Kp.setCell ?_ (by first | (dsimp only; omega) | (simp; omega) | (simp; done) | (simp [size_ext_eq]; omega)) _))))).mono ?_) | (with_reducible refine (Hc.out _ (by repeat (first | (with_reducible exact Kp.refl _) | (with_reducible assumption) | (with_reducible apply Kp.ext) | (with_reducible apply Kp.alloc) | (with_reducible apply Kp.drew) | (with_reducible apply Kp.drewN) | (with_reducible refine Kp.setCell ?_ (by first | (dsimp only; omega) | (simp; omega) | (simp; done) | (simp [size_ext_eq]; omega)) _)))).mono ?_)); rintro e w' ⟨rfl, u, rfl⟩))
    go_ret
    exact Ret.mk rfl (by repeat (first | (with_reducible exact Kp.refl _) | (with_reducible assumption) | (with_reducible apply Kp.ext) | (with_reducible apply Kp.alloc) | (with_reducible apply Kp.drew) | (with_reducible apply Kp.drewN) | (with_reducible refine Kp.setCell ?_ (by first | (dsimp only; omega) | (simp; omega) | (simp; done) | (simp [size_ext_eq]; omega)) _)))
  · rw [hR] at hc
    have Hc := Lib.hid hc
    obtain ⟨hle, h4, x, y, hi, hx, hy⟩ := ring_ints' ps hbits hR
    obtain ⟨s0, hA⟩ := areaIs_of (by omega) (by omega) hi
    have hD : sumTo (offT x y) (ps.length - 2) = sumTo (crossT x y) (ps.length - 1) := by
      have := off_closed x y (ps.length - 2) (by rw [show ps.length - 2 + 1 = ps.length - 1 by omega]; exact hx) (by rw [show ps.length - 2 + 1 = ps.length - 1 by omega]; exact hy)
      rwa [show ps.length - 2 + 1 = ps.length - 1 by omega] at this
    have hb := sumTo_abs (t := offT x y) (m := 8000000) (n := ps.length - 2) fun i hik => by
      have := offT_bd hi i (by omega)
      unfold offT; omega
    have hbn : -8000000000 ≤ sumTo (crossT x y) (ps.length - 1) ∧ sumTo (crossT x y) (ps.length - 1) ≤ 8000000000 := by
      rw [← hD]; omega
    have hq : ∀ s, IsV s (sumTo (crossT x y) (ps.length - 1) : Int) → FOk .quo s 4611686018427387904 ∧ eqF s0 (fop .quo s 4611686018427387904) = true := fun s hsv => by
      have v0 := hA.v
      rw [hD] at v0
      have two : IsV 4611686018427387904 ((2 : Int) : Rat) := by
        rw [show (4611686018427387904 : Nat) = fl 2 by kernel_rfl]; exact fl_isV (by decide)
      have half : (2 : Rat) ^ (-((1 : Nat) : Int)) = 1 / 2 := by decide +kernel
      obtain ⟨o1, v1⟩ := quo_few (v := ((sumTo (crossT x y) (ps.length - 1) : Int) : Rat) * (2 : Rat) ^ (-((1 : Nat) : Int))) hsv two (by decide) (by
        have h2 : ((2 : Int) : Rat) = 2 := rfl
        rw [h2, half]; grind) (few_part 1 (by decide) (by omega))
      refine ⟨o1, ?_⟩
      rw [eqF_isV v0 v1]
      exact decide_eq_true rfl
    have hAr := Lib.hid (fun w' (hk : Kp w w') => ringArea_c a cap ps (by omega) (by omega) w' (hs.kp hk) x y hi s0 hA)
    have hDb := Lib.hid (fun w' (hk : Kp w w') => doubled_c a cap ps (by omega) (by omega) w' (hs.kp hk) x y hi)
    have Hq := Lib.hid hq
    clear hc hR hq hA hi hx hy hD hb hbn hle h4 hbits hs
    go_wp2_with (first | (go_at_call 8; (first | (with_reducible refine (Ret.at_ext (measures_c _)).mono ?_) | (with_reducible refine (measures_c _).mono ?_)); rintro e w' ⟨rfl, u, rfl⟩) | (go_at_call 9; (first | (with_reducible refine (Ret.at_ext (Hc.out _ (by repeat (first | (with_reducible exact Kp.refl _) | (with_reducible assumption) | (with_reducible apply Kp.ext) | (with_reducible apply Kp.alloc) | (with_reducible apply Kp.drew) | (with_reducible apply Kp.drewN) | (with_reducible refine Kp.setCell ?_ (by first | (dsimp only; omega) | (simp; omega) | (simp; done) | (simp [size_ext_eq]; omega)) _))))).mono ?_) | (with_reducible refine (Hc.out _ (by repeat (first | (with_reducible exact Kp.refl _) | (with_reducible assumption) | (with_reducible apply Kp.ext) | (with_reducible apply Kp.alloc) | (with_reducible apply Kp.drew) | (with_reducible apply Kp.drewN) | (with_reducible refine Kp.setCell ?_ (by first | (dsimp only; omega) | (simp; omega) | (simp; done) | (simp [size_ext_eq]; omega)) _)))).mono ?_)); rintro e w' ⟨rfl, u, rfl⟩) | (go_at_call 10; (first | (with_reducible refine (Ret.at_ext (hAr.out _ (by repeat (first | (with_reducible exact Kp.refl _) | (with_reducible assumption) | (with_reducible apply Kp.ext) | (with_reducible apply Kp.alloc) | (with_reducible apply Kp.drew) | (with_reducible apply Kp.drewN) | (with_reducible refine Kp.setCell ?_ (by first | (dsimp only; omega) | (simp; omega) | (simp; done) | (simp [size_ext_eq]; omega)) _))))).mono ?_) | (with_reducible refine (hAr.out _ (by repeat (first | (with_reducible exact Kp.refl _) | (with_reducible assumption) | (with_reducible apply Kp.ext) | (with_reducible apply Kp.alloc) | (with_reducible apply Kp.drew) | (with_reducible apply Kp.drewN) | (with_reducible refine Kp.setCell ?_ (by first | (dsimp only; omega) | (simp; omega) | (simp; done) | (simp [size_ext_eq]; omega)) _)))).mono ?_)); rintro e w' ⟨rfl, u, rfl⟩) | (go_at_call 11; (with_reducible refine (hDb.out _ (by repeat (first | (with_reducible exact Kp.refl _) | (with_reducible assumption) | (with_reducible apply Kp.ext) | (with_reducible apply Kp.alloc) | (with_reducible apply Kp.drew) | (with_reducible apply Kp.drewN) | (with_reducible refine Kp.setCell ?_ (by first | (dsimp only; omega) | (simp; omega) | (simp; done) | (simp [size_ext_eq]; omega)) _)))).mono ?_); rintro e w2 ⟨s, rfl, hsv, u, rfl⟩; obtain ⟨o1, o2⟩ := Hq.out s hsv))
    go_ret
    exact Ret.mk rfl (by repeat (first | (with_reducible exact Kp.refl _) | (with_reducible assumption) | (with_reducible apply Kp.ext) | (with_reducible apply Kp.alloc) | (with_reducible apply Kp.drew) | (with_reducible apply Kp.drewN) | (with_reducible refine Kp.setCell ?_ (by first | (dsimp only; omega) | (simp; omega) | (simp; done) | (simp [size_ext_eq]; omega)) _)))
end Go.Proofs.YtcljppkejabibaaDoor
