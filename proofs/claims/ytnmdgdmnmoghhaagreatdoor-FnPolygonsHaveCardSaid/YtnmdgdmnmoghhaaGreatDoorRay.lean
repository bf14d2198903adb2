/-
  planar.rayIntersect, walked: on whole numbers it tells whether a ray upwards goes through a side, and whether the point is on it.
-/
import Derived.Test.YtnmdgdmnmoghhaaGreatDoorRayV
import Derived.Test.YtnmdgdmnmoghhaaGreatDoorMeas
namespace Go.Proofs.YtnmdgdmnmoghhaaGreatDoor
open PubFl Go.RowKit

attribute [local go_sem] cell_ext frozen_ext ext_setCell cell_store size_ext_eq lt_p0 lt_p1 lt_p2 lt_p3 lt_p4 lt_p5 lt_p6 lt_p7 lt_p8 lt_p9 lt_p10 lt_p11 lt_p12 lt_p13 lt_p14 lt_p15 lt_p16 lt_p17 lt_p18 lt_p19 lt_p20 lt_p21 lt_p22 lt_p23 lt_p24 lt_p25 lt_p26 lt_p27 lt_p28 lt_p29 lt_p30 lt_p31 lt_p32 lt_q1 lt_q2 lt_q3 lt_q4 lt_q5 lt_q6 lt_q7 lt_q8 lt_q9 lt_q10 lt_q11 lt_q12 lt_q13 lt_q14 lt_q15 lt_q16 lt_q17 lt_q18 lt_q19 lt_q20 lt_q21 lt_q22 lt_q23 lt_q24 lt_q25 lt_q26 lt_q27 lt_q28 lt_q29 lt_q30 lt_q31 lt_q32 run_fop run_store_float
attribute [local go_sem high] cmp_eql cmp_neq cmp_lss cmp_leq cmp_gtr cmp_geq

theorem inf_c (w : World) : Calls Tryz.prog 70 #[.int .i64 1] w (Ret w (.float .f64 infW)) := by
  have h2 := x_frombits
  go_enter Tryz.func70, Tryz.ntmps70
  go_wp2_with fail
  go_ret
  exact Ret.mk rfl (by repeat (first | (with_reducible exact Kp.refl _) | (with_reducible assumption) | (with_reducible apply Kp.ext) | (with_reducible apply Kp.alloc) | (with_reducible apply Kp.drew) | (with_reducible apply Kp.drewN) | (with_reducible refine Kp.setCell ?_ (by first | (dsimp only; omega) | (simp; omega) | (simp; done) | (simp [size_ext_eq]; omega)) _)))
theorem inf_inf : eqF infW infW = true := by decide +kernel
theorem nan_c (x : Nat) (h : eqF x x = true) (w : World) : Calls Tryz.prog 74 #[.float .f64 x] w (Ret w (.bool false)) := by
  have hn : neF x x = false := by unfold neF; rw [h]; rfl
  go_enter Tryz.func74, Tryz.ntmps74
  go_wp2_with fail
  go_ret
  exact Ret.mk rfl (by repeat (first | (with_reducible exact Kp.refl _) | (with_reducible assumption) | (with_reducible apply Kp.ext) | (with_reducible apply Kp.alloc) | (with_reducible apply Kp.drew) | (with_reducible apply Kp.drewN) | (with_reducible refine Kp.setCell ?_ (by first | (dsimp only; omega) | (simp; omega) | (simp; done) | (simp [size_ext_eq]; omega)) _)))
theorem one_sign (w : World) : Calls Tryz.prog 67 #[.float .f64 1, .float .f64 infW] w (Ret w (.float .f64 1)) := by
  have h1 := x_bits
  have h2 := x_frombits
  go_enter Tryz.func67, Tryz.ntmps67
  go_wp2_with fail
  go_ret
  exact Ret.mk rfl (by repeat (first | (with_reducible exact Kp.refl _) | (with_reducible assumption) | (with_reducible apply Kp.ext) | (with_reducible apply Kp.alloc) | (with_reducible apply Kp.drew) | (with_reducible apply Kp.drewN) | (with_reducible refine Kp.setCell ?_ (by first | (dsimp only; omega) | (simp; omega) | (simp; done) | (simp [size_ext_eq]; omega)) _)))
theorem u64_in (n : Int) (h0 : 0 ≤ n) (h1 : n < 18446744073709551616) : IntKind.u64.wrap n = n := by
  have e : IntKind.u64.wrap n = n % 18446744073709551616 := rfl
  rw [e]; omega
theorem nextafter_c (n : Int) (h1 : -1000 ≤ n) (h2 : n ≤ 1000) (w : World) : Calls Tryz.prog 69 #[.float .f64 (fl n), .float .f64 infW] w (Ret w (.float .f64 (nextF (fl n)))) := by
  have hv := fl_isV (n := n) (by omega)
  obtain ⟨m1, m2⟩ := inf_more hv
  have s1 : eqF (fl n) (fl n) = true := by rw [eqF_isV hv hv]; simp
  have s2 := inf_inf
  have e0 : eqF (fl n) 0 = decide (n = 0) := eqF_int hv zero_isV
  have g0 : gtF (fl n) 0 = decide (0 < n) := gtF_int hv zero_isV
  have hneg := fl_neg h1 h2
  have hlt : fl n < 2 ^ 64 := hv.1
  have h1' := x_bits
  have h2' := x_frombits
  by_cases hz : n = 0
  · subst hz
    rw [next_zero]
    have s0 : fl 0 = 0 := by decide +kernel
    rw [s0] at m1 m2 s1 e0 ⊢
    have e0' : eqF 0 0 = true := e0
    clear e0 hneg hv g0 hlt h1 h2 s0
    go_enter Tryz.func69, Tryz.ntmps69
    go_wp2_with (first | (go_at_call 74; (first | (with_reducible refine (Ret.at_ext (nan_c _ s1 _)).mono ?_) | (with_reducible refine (nan_c _ s1 _).mono ?_)); rintro e w' ⟨rfl, u, rfl⟩) | (go_at_call 74; (first | (with_reducible refine (Ret.at_ext (nan_c _ s2 _)).mono ?_) | (with_reducible refine (nan_c _ s2 _).mono ?_)); rintro e w' ⟨rfl, u, rfl⟩) | (go_at_call 67; (first | (with_reducible refine (Ret.at_ext (one_sign _)).mono ?_) | (with_reducible refine (one_sign _).mono ?_)); rintro e w' ⟨rfl, u, rfl⟩))
    go_ret
    exact Ret.mk rfl (by repeat (first | (with_reducible exact Kp.refl _) | (with_reducible assumption) | (with_reducible apply Kp.ext) | (with_reducible apply Kp.alloc) | (with_reducible apply Kp.drew) | (with_reducible apply Kp.drewN) | (with_reducible refine Kp.setCell ?_ (by first | (dsimp only; omega) | (simp; omega) | (simp; done) | (simp [size_ext_eq]; omega)) _)))
  · have hne := fl_ne h1 h2 hz
    rw [decide_eq_false hz] at e0
    by_cases hp : 0 < n
    · rw [decide_eq_true hp] at g0
      rw [decide_eq_false (show ¬ n < 0 by omega)] at hneg
      have hN : nextF (fl n) = fl n + 1 := by unfold nextF; rw [if_neg hne, hneg]; rfl
      rw [hN]
      generalize fl n = x at *
      have hlt2 : x + 1 < 18446744073709551616 := by
        have : negF x = false := hneg
        unfold negF at this
        simp at this
        omega
      have hw1 : IntKind.u64.wrap ((x : Int) + 1) = (x : Int) + 1 := u64_in _ (by omega) (by omega)
      have ht : ((x : Int) + 1).toNat = x + 1 := by omega
      clear hv hneg hlt hlt2 hN
      go_enter Tryz.func69, Tryz.ntmps69
      go_wp2_with (first | (go_at_call 74; (first | (with_reducible refine (Ret.at_ext (nan_c _ s1 _)).mono ?_) | (with_reducible refine (nan_c _ s1 _).mono ?_)); rintro e w' ⟨rfl, u, rfl⟩) | (go_at_call 74; (first | (with_reducible refine (Ret.at_ext (nan_c _ s2 _)).mono ?_) | (with_reducible refine (nan_c _ s2 _).mono ?_)); rintro e w' ⟨rfl, u, rfl⟩))
      exact bodyPost_ret (v := .float .f64 (x + 1)) (by simp [results, Tryz.results69, go_sem]) rfl (Ret.mk rfl (by repeat (first | (with_reducible exact Kp.refl _) | (with_reducible assumption) | (with_reducible apply Kp.ext) | (with_reducible apply Kp.alloc) | (with_reducible apply Kp.drew) | (with_reducible apply Kp.drewN) | (with_reducible refine Kp.setCell ?_ (by first | (dsimp only; omega) | (simp; omega) | (simp; done) | (simp [size_ext_eq]; omega)) _))))
    · rw [decide_eq_false hp] at g0
      rw [decide_eq_true (show n < 0 by omega)] at hneg
      have hN : nextF (fl n) = fl n - 1 := by unfold nextF; rw [if_neg hne, hneg]; rfl
      rw [hN]
      generalize fl n = x at *
      have hw1 : IntKind.u64.wrap ((x : Int) - 1) = (x : Int) - 1 := u64_in _ (by omega) (by omega)
      have ht : ((x : Int) - 1).toNat = x - 1 := by omega
      clear hv hneg hlt hN
      go_enter Tryz.func69, Tryz.ntmps69
      go_wp2_with (first | (go_at_call 74; (first | (with_reducible refine (Ret.at_ext (nan_c _ s1 _)).mono ?_) | (with_reducible refine (nan_c _ s1 _).mono ?_)); rintro e w' ⟨rfl, u, rfl⟩) | (go_at_call 74; (first | (with_reducible refine (Ret.at_ext (nan_c _ s2 _)).mono ?_) | (with_reducible refine (nan_c _ s2 _).mono ?_)); rintro e w' ⟨rfl, u, rfl⟩))
      exact bodyPost_ret (v := .float .f64 (x - 1)) (by simp [results, Tryz.results69, go_sem]) rfl (Ret.mk rfl (by repeat (first | (with_reducible exact Kp.refl _) | (with_reducible assumption) | (with_reducible apply Kp.ext) | (with_reducible apply Kp.alloc) | (with_reducible apply Kp.drew) | (with_reducible apply Kp.drewN) | (with_reducible refine Kp.setCell ?_ (by first | (dsimp only; omega) | (simp; omega) | (simp; done) | (simp [size_ext_eq]; omega)) _))))
end Go.Proofs.YtnmdgdmnmoghhaaGreatDoor
