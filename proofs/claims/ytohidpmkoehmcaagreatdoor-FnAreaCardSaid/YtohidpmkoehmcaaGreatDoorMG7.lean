/-
  impl.RingHas on the small square, and laws.measures.
  planar.rayIntersect, walked: on whole numbers it tells whether a ray upwards goes through a side, and whether the point is on it.
-/
import Derived.Test.YtohidpmkoehmcaaGreatDoorHasSq
import Derived.Deep.RegionHeld3
import Derived.Deep.DrawnRows
import Derived.Test.YtohidpmkoehmcaaGreatDoorRayV
set_option linter.all false
namespace Go.Proofs.YtohidpmkoehmcaaGreatDoor
open PubFl Go.RowKit

attribute [local go_sem] cell_ext frozen_ext ext_setCell cell_store size_ext_eq lt_p0 lt_p1 lt_p2 lt_p3 lt_p4 lt_p5 lt_p6 lt_p7 lt_p8 lt_p9 lt_p10 lt_p11 lt_p12 lt_p13 lt_p14 lt_p15 lt_p16 lt_p17 lt_p18 lt_p19 lt_p20 lt_p21 lt_p22 lt_p23 lt_p24 lt_p25 lt_p26 lt_p27 lt_p28 lt_p29 lt_p30 lt_p31 lt_p32 lt_q1 lt_q2 lt_q3 lt_q4 lt_q5 lt_q6 lt_q7 lt_q8 lt_q9 lt_q10 lt_q11 lt_q12 lt_q13 lt_q14 lt_q15 lt_q16 lt_q17 lt_q18 lt_q19 lt_q20 lt_q21 lt_q22 lt_q23 lt_q24 lt_q25 lt_q26 lt_q27 lt_q28 lt_q29 lt_q30 lt_q31 lt_q32 run_fop run_store_float
attribute [local go_sem high] cmp_eql cmp_neq cmp_lss cmp_leq cmp_gtr cmp_geq


theorem sq5_form {w w' : World} {e : TypeId} {v : Value} (h : PtsNew w w' e v sq5) : ∃ g cap, v = .slice (some ⟨g, 0, none⟩) 5 cap ∧ g < w'.heap.size ∧ PtsAt w' g 0 sq5 := by
  obtain ⟨g, cap, hv, _, hg, _, _, hp⟩ := h.form (by decide)
  exact ⟨g, cap, hv, hg, hp⟩
set_option maxHeartbeats 1600000 in
theorem ringHas_sq (a : Option Addr) (cap : Nat) (w : World) (hs : PtsIn w a sq5) :
    Calls Tryz.prog 16 #[.slice a 5 cap, .agg #[.float .f64 4607182418800017408, .float .f64 4607182418800017408]] w (Ret w (.bool true)) := by
  have hin := Lib.hid (fun w' (hk : Kp w w') => pointsOf_c a cap sq5 (by decide) w' (hs.kp hk))
  clear hs
  go_enter Tryz.func16, Tryz.ntmps16
  go_wp2_with fail
  go_region_held3 (fun w' => w'.cell? ⟨w.heap.size, 0, none⟩ = some (.float .f64 4607182418800017408) ∧ w'.cell? ⟨w.heap.size, 1, none⟩ = some (.float .f64 4607182418800017408)) (simp [go_sem])
    (first | (go_at_call 26; refine (hin.out _ (by repeat (first | (with_reducible exact Kp.refl _) | (with_reducible assumption) | (with_reducible apply Kp.ext) | (with_reducible apply Kp.alloc) | (with_reducible apply Kp.drew) | (with_reducible apply Kp.drewN) | (with_reducible refine Kp.setCell ?_ (by first | (dsimp only; omega) | (simp; omega) | (simp; done) | (simp [size_ext_eq]; omega)) _)))).mono ?_; rintro e w1 ⟨v, u, rfl, rfl, hp⟩; obtain ⟨g, cap', rfl, hg2, hpt⟩ := sq5_form hp) | (go_at_call 27; (first | (with_reducible refine (Ret.at_ext (contains_sq _ _ _ hg2 hpt)).mono ?_) | (with_reducible refine (contains_sq _ _ _ hg2 hpt).mono ?_)); rintro e w' ⟨rfl, u, rfl⟩))
  all_goals
    rename_i hHeld; clear hHeld
    go_wp2_with fail
    go_ret
    exact Ret.mk rfl (by repeat (first | (with_reducible exact Kp.refl _) | (with_reducible assumption) | (with_reducible apply Kp.ext) | (with_reducible apply Kp.alloc) | (with_reducible apply Kp.drew) | (with_reducible apply Kp.drewN) | (with_reducible refine Kp.setCell ?_ (by first | (dsimp only; omega) | (simp; omega) | (simp; done) | (simp [size_ext_eq]; omega)) _)))

theorem sq5_area : AreaIs sq5 (fun i => ([0, 4, 4, 0, 0] : List Int).getD i 0) (fun i => ([0, 0, 4, 4, 0] : List Int).getD i 0) 4625196817309499392 := by
  have e : sumTo (offT (fun i => ([0, 4, 4, 0, 0] : List Int).getD i 0) (fun i => ([0, 0, 4, 4, 0] : List Int).getD i 0)) (sq5.length - 2) = 32 := by decide
  refine ⟨?_, fun h => by rw [e] at h; cases h⟩
  rw [e]
  have h16 : IsV 4625196817309499392 ((16 : Int) : Rat) := by
    rw [show (4625196817309499392 : Nat) = fl 16 by kernel_rfl]; exact fl_isV (by decide)
  have e2 : ((32 : Int) : Rat) * (2 : Rat) ^ (-(1 : Int)) = ((16 : Int) : Rat) := by decide +kernel
  rw [e2]; exact h16
theorem sq5_ipts : IntPts sq5 (fun i => ([0, 4, 4, 0, 0] : List Int).getD i 0) (fun i => ([0, 0, 4, 4, 0] : List Int).getD i 0) := by
  have z : IsV 0 ((0 : Int) : Rat) := zero_isV
  have f : IsV 4616189618054758400 ((4 : Int) : Rat) := by rw [← fl_four']; exact fl_isV (by decide)
  intro i hi
  have hi5 : i < 5 := hi
  rcases (show i = 0 ∨ i = 1 ∨ i = 2 ∨ i = 3 ∨ i = 4 by omega) with rfl | rfl | rfl | rfl | rfl
  · exact ⟨z, z, by decide, by decide⟩
  · exact ⟨f, z, by decide, by decide⟩
  · exact ⟨f, f, by decide, by decide⟩
  · exact ⟨z, f, by decide, by decide⟩
  · exact ⟨z, z, by decide, by decide⟩
theorem ringArea_sq (a : Option Addr) (cap : Nat) (w : World) (hs : PtsIn w a sq5) : Calls Tryz.prog 14 #[.slice a 5 cap] w (Ret w (.float .f64 4625196817309499392)) :=
  ringArea_c a cap sq5 (by decide) (by decide) w hs _ _ sq5_ipts _ sq5_area
theorem sixteen : eqF 4625196817309499392 4625196817309499392 = true := by decide +kernel

theorem measures_c (w : World) : Calls Tryz.prog 7 #[] w (Ret w (.bool true)) := by
  have h16 := sixteen
  go_enter Tryz.func7, Tryz.ntmps7
  go_wp2_with (first | (go_at_call 15; (with_reducible refine (square_c _).mono ?_); rintro e w1 ⟨v, u, rfl, hu1, hp⟩; have hk1 : Kp w w1 := (by rw [hu1]; exact Kp.ext (by repeat (first | (with_reducible exact Kp.refl _) | (with_reducible assumption) | (with_reducible apply Kp.ext) | (with_reducible apply Kp.alloc) | (with_reducible apply Kp.drew) | (with_reducible apply Kp.drewN) | (with_reducible refine Kp.setCell ?_ (by first | (dsimp only; omega) | (simp; omega) | (simp; done) | (simp [size_ext_eq]; omega)) _))) _); clear hu1; obtain ⟨g, cap', rfl, hg2, hpt⟩ := sq5_form hp; have hin1 : PtsIn w1 (some ⟨g, 0, none⟩) sq5 := .inr ⟨g, 0, rfl, hg2, hpt⟩; clear hp hpt hg2) | (go_at_call 14; (first | (with_reducible refine (Ret.at_ext (ringArea_sq _ _ _ hin1)).mono ?_) | (with_reducible refine (ringArea_sq _ _ _ hin1).mono ?_)); rintro e w' ⟨rfl, u, rfl⟩) | (go_at_call 16; (first | (with_reducible refine (Ret.at_ext (ringHas_sq _ _ _ hin1)).mono ?_) | (with_reducible refine (ringHas_sq _ _ _ hin1).mono ?_)); rintro e w' ⟨rfl, u, rfl⟩))
  go_ret
  exact Ret.mk rfl (by repeat (first | (with_reducible exact Kp.refl _) | (with_reducible assumption) | (with_reducible apply Kp.ext) | (with_reducible apply Kp.alloc) | (with_reducible apply Kp.drew) | (with_reducible apply Kp.drewN) | (with_reducible refine Kp.setCell ?_ (by first | (dsimp only; omega) | (simp; omega) | (simp; done) | (simp [size_ext_eq]; omega)) _)))
end Go.Proofs.YtohidpmkoehmcaaGreatDoor

set_option linter.all false
namespace Go.Proofs.YtohidpmkoehmcaaGreatDoor
open PubFl Go.RowKit

attribute [local go_sem] cell_ext frozen_ext ext_setCell cell_store size_ext_eq lt_p0 lt_p1 lt_p2 lt_p3 lt_p4 lt_p5 lt_p6 lt_p7 lt_p8 lt_p9 lt_p10 lt_p11 lt_p12 lt_p13 lt_p14 lt_p15 lt_p16 lt_p17 lt_p18 lt_p19 lt_p20 lt_p21 lt_p22 lt_p23 lt_p24 lt_p25 lt_p26 lt_p27 lt_p28 lt_p29 lt_p30 lt_p31 lt_p32 lt_q1 lt_q2 lt_q3 lt_q4 lt_q5 lt_q6 lt_q7 lt_q8 lt_q9 lt_q10 lt_q11 lt_q12 lt_q13 lt_q14 lt_q15 lt_q16 lt_q17 lt_q18 lt_q19 lt_q20 lt_q21 lt_q22 lt_q23 lt_q24 lt_q25 lt_q26 lt_q27 lt_q28 lt_q29 lt_q30 lt_q31 lt_q32 run_fop run_store_float
attribute [local go_sem high] cmp_eql cmp_neq cmp_lss cmp_leq cmp_gtr cmp_geq

theorem inf_c (w : World) : Calls Tryz.prog 53 #[.int .i64 1] w (Ret w (.float .f64 infW)) := by
  have h2 := x_frombits
  go_enter Tryz.func53, Tryz.ntmps53
  go_wp2_with fail
  go_ret
  exact Ret.mk rfl (by repeat (first | (with_reducible exact Kp.refl _) | (with_reducible assumption) | (with_reducible apply Kp.ext) | (with_reducible apply Kp.alloc) | (with_reducible apply Kp.drew) | (with_reducible apply Kp.drewN) | (with_reducible refine Kp.setCell ?_ (by first | (dsimp only; omega) | (simp; omega) | (simp; done) | (simp [size_ext_eq]; omega)) _)))
theorem inf_inf : eqF infW infW = true := by decide +kernel
theorem nan_c (x : Nat) (h : eqF x x = true) (w : World) : Calls Tryz.prog 58 #[.float .f64 x] w (Ret w (.bool false)) := by
  have hn : neF x x = false := by unfold neF; rw [h]; rfl
  go_enter Tryz.func58, Tryz.ntmps58
  go_wp2_with fail
  go_ret
  exact Ret.mk rfl (by repeat (first | (with_reducible exact Kp.refl _) | (with_reducible assumption) | (with_reducible apply Kp.ext) | (with_reducible apply Kp.alloc) | (with_reducible apply Kp.drew) | (with_reducible apply Kp.drewN) | (with_reducible refine Kp.setCell ?_ (by first | (dsimp only; omega) | (simp; omega) | (simp; done) | (simp [size_ext_eq]; omega)) _)))
theorem one_sign (w : World) : Calls Tryz.prog 62 #[.float .f64 1, .float .f64 infW] w (Ret w (.float .f64 1)) := by
  have h1 := x_bits
  have h2 := x_frombits
  go_enter Tryz.func62, Tryz.ntmps62
  go_wp2_with fail
  go_ret
  exact Ret.mk rfl (by repeat (first | (with_reducible exact Kp.refl _) | (with_reducible assumption) | (with_reducible apply Kp.ext) | (with_reducible apply Kp.alloc) | (with_reducible apply Kp.drew) | (with_reducible apply Kp.drewN) | (with_reducible refine Kp.setCell ?_ (by first | (dsimp only; omega) | (simp; omega) | (simp; done) | (simp [size_ext_eq]; omega)) _)))
theorem u64_in (n : Int) (h0 : 0 ≤ n) (h1 : n < 18446744073709551616) : IntKind.u64.wrap n = n := by
  have e : IntKind.u64.wrap n = n % 18446744073709551616 := rfl
  rw [e]; omega
theorem nextafter_c (n : Int) (h1 : -1000 ≤ n) (h2 : n ≤ 1000) (w : World) : Calls Tryz.prog 52 #[.float .f64 (fl n), .float .f64 infW] w (Ret w (.float .f64 (nextF (fl n)))) := by
  have hv := fl_isV (n := n) (by omega)
  obtain ⟨m1, m2⟩ := inf_more hv
  have s1 : eqF (fl n) (fl n) = true := by rw [eqF_isV hv hv]; simp
  have s2 := inf_inf
  have e0 : eqF (fl n) 0 = decide (n = 0) := eqF_int hv zero_isV
  have g0 : gtF (fl n) 0 = decide (0 < n) := gtF_int hv zero_isV
  have hneg := fl_neg h1 h2
  have hlt : fl n < 2 ^ 64 := hv.1
  have h1' := x_bits
  have h2' := x_frombits
  by_cases hz : n = 0
  · subst hz
    rw [next_zero]
    have s0 : fl 0 = 0 := by decide +kernel
    rw [s0] at m1 m2 s1 e0 ⊢
    have e0' : eqF 0 0 = true := e0
    clear e0 hneg hv g0 hlt h1 h2 s0
    go_enter Tryz.func52, Tryz.ntmps52
    go_wp2_with (first | (go_at_call 58; (first | (with_reducible refine (Ret.at_ext (nan_c _ s1 _)).mono ?_) | (with_reducible refine (nan_c _ s1 _).mono ?_)); rintro e w' ⟨rfl, u, rfl⟩) | (go_at_call 58; (first | (with_reducible refine (Ret.at_ext (nan_c _ s2 _)).mono ?_) | (with_reducible refine (nan_c _ s2 _).mono ?_)); rintro e w' ⟨rfl, u, rfl⟩) | (go_at_call 62; (first | (with_reducible refine (Ret.at_ext (one_sign _)).mono ?_) | (with_reducible refine (one_sign _).mono ?_)); rintro e w' ⟨rfl, u, rfl⟩))
    go_ret
    exact Ret.mk rfl (by repeat (first | (with_reducible exact Kp.refl _) | (with_reducible assumption) | (with_reducible apply Kp.ext) | (with_reducible apply Kp.alloc) | (with_reducible apply Kp.drew) | (with_reducible apply Kp.drewN) | (with_reducible refine Kp.setCell ?_ (by first | (dsimp only; omega) | (simp; omega) | (simp; done) | (simp [size_ext_eq]; omega)) _)))
  · have hne := fl_ne h1 h2 hz
    rw [decide_eq_false hz] at e0
    by_cases hp : 0 < n
    · rw [decide_eq_true hp] at g0
      rw [decide_eq_false (show ¬ n < 0 by omega)] at hneg
      have hN : nextF (fl n) = fl n + 1 := by unfold nextF; rw [if_neg hne, hneg]; rfl
      rw [hN]
      generalize fl n = x at *
      have hlt2 : x + 1 < 18446744073709551616 := by
        have : negF x = false := hneg
        unfold negF at this
        simp at this
        omega
      have hw1 : IntKind.u64.wrap ((x : Int) + 1) = (x : Int) + 1 := u64_in _ (by omega) (by omega)
      have ht : ((x : Int) + 1).toNat = x + 1 := by omega
      clear hv hneg hlt hlt2 hN
      go_enter Tryz.func52, Tryz.ntmps52
      go_wp2_with (first | (go_at_call 58; (first | (with_reducible refine (Ret.at_ext (nan_c _ s1 _)).mono ?_) | (with_reducible refine (nan_c _ s1 _).mono ?_)); rintro e w' ⟨rfl, u, rfl⟩) | (go_at_call 58; (first | (with_reducible refine (Ret.at_ext (nan_c _ s2 _)).mono ?_) | (with_reducible refine (nan_c _ s2 _).mono ?_)); rintro e w' ⟨rfl, u, rfl⟩))
      exact bodyPost_ret (v := .float .f64 (x + 1)) (by simp [results, Tryz.results52, go_sem]) rfl (Ret.mk rfl (by repeat (first | (with_reducible exact Kp.refl _) | (with_reducible assumption) | (with_reducible apply Kp.ext) | (with_reducible apply Kp.alloc) | (with_reducible apply Kp.drew) | (with_reducible apply Kp.drewN) | (with_reducible refine Kp.setCell ?_ (by first | (dsimp only; omega) | (simp; omega) | (simp; done) | (simp [size_ext_eq]; omega)) _))))
    · rw [decide_eq_false hp] at g0
      rw [decide_eq_true (show n < 0 by omega)] at hneg
      have hN : nextF (fl n) = fl n - 1 := by unfold nextF; rw [if_neg hne, hneg]; rfl
      rw [hN]
      generalize fl n = x at *
      have hw1 : IntKind.u64.wrap ((x : Int) - 1) = (x : Int) - 1 := u64_in _ (by omega) (by omega)
      have ht : ((x : Int) - 1).toNat = x - 1 := by omega
      clear hv hneg hlt hN
      go_enter Tryz.func52, Tryz.ntmps52
      go_wp2_with (first | (go_at_call 58; (first | (with_reducible refine (Ret.at_ext (nan_c _ s1 _)).mono ?_) | (with_reducible refine (nan_c _ s1 _).mono ?_)); rintro e w' ⟨rfl, u, rfl⟩) | (go_at_call 58; (first | (with_reducible refine (Ret.at_ext (nan_c _ s2 _)).mono ?_) | (with_reducible refine (nan_c _ s2 _).mono ?_)); rintro e w' ⟨rfl, u, rfl⟩))
      exact bodyPost_ret (v := .float .f64 (x - 1)) (by simp [results, Tryz.results52, go_sem]) rfl (Ret.mk rfl (by repeat (first | (with_reducible exact Kp.refl _) | (with_reducible assumption) | (with_reducible apply Kp.ext) | (with_reducible apply Kp.alloc) | (with_reducible apply Kp.drew) | (with_reducible apply Kp.drewN) | (with_reducible refine Kp.setCell ?_ (by first | (dsimp only; omega) | (simp; omega) | (simp; done) | (simp [size_ext_eq]; omega)) _))))
end Go.Proofs.YtohidpmkoehmcaaGreatDoor
