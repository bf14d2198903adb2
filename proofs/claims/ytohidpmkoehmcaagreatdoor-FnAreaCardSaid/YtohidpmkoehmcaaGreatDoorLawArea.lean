/-
  laws.FnArea, walked: it answers true.
-/
import Derived.Test.YtohidpmkoehmcaaGreatDoorMG11
import Derived.Test.YtohidpmkoehmcaaGreatDoorMG10
set_option linter.all false
namespace Go.Proofs.YtohidpmkoehmcaaGreatDoor
open PubFl Go.RowKit

attribute [local go_sem] cell_ext frozen_ext ext_setCell cell_store size_ext_eq lt_p0 lt_p1 lt_p2 lt_p3 lt_p4 lt_p5 lt_p6 lt_p7 lt_p8 lt_p9 lt_p10 lt_p11 lt_p12 lt_p13 lt_p14 lt_p15 lt_p16 lt_p17 lt_p18 lt_p19 lt_p20 lt_p21 lt_p22 lt_p23 lt_p24 lt_p25 lt_p26 lt_p27 lt_p28 lt_p29 lt_p30 lt_p31 lt_p32 lt_q1 lt_q2 lt_q3 lt_q4 lt_q5 lt_q6 lt_q7 lt_q8 lt_q9 lt_q10 lt_q11 lt_q12 lt_q13 lt_q14 lt_q15 lt_q16 lt_q17 lt_q18 lt_q19 lt_q20 lt_q21 lt_q22 lt_q23 lt_q24 lt_q25 lt_q26 lt_q27 lt_q28 lt_q29 lt_q30 lt_q31 lt_q32 run_fop run_store_float
attribute [local go_sem high] cmp_eql cmp_neq cmp_lss cmp_leq cmp_gtr cmp_geq

theorem poly_parts {d : Nat} {s : Sh} (hk : s.kind = 3) (h : cntOk (d + 1) s = true) : s.parts = [] := by
  obtain ⟨_, _, h3⟩ := cntOk_parts h
  unfold formB at h3
  rw [hk] at h3
  have : s.parts.length = 0 := by simpa using h3
  exact List.length_eq_zero_iff.1 this
theorem holesTo_nn (D : Nat → Int) : ∀ k, 0 ≤ holesTo D k
  | 0 => Int.le_refl 0
  | k + 1 => by
    have := holesTo_nn D k
    show 0 ≤ holesTo D k + _
    omega
set_option maxRecDepth 100000 in
set_option maxHeartbeats 4000000 in
theorem lawAr_walk (s : Sh) (lv pv : Value) (t : Sh) (lv' pv' : Value) (w : World) (hs : ShIn 4 w lv pv s) (ht : ShIn 4 w lv' pv' t) :
    Calls Tryz.prog 3 #[.agg #[.int .i64 s.kind, lv, pv], .agg #[.int .i64 t.kind, lv', pv']] w (Ret w (.bool true)) := by
  have h1 := fun w' (hk : Kp w w') => fits1_c 3 s lv pv w' (hs.kp hk)
  have h2 := fun w' (hk : Kp w w') => fits1_c 3 t lv' pv' w' (ht.kp hk)
  obtain ⟨⟨a1, n1, c1, rfl⟩, a2, n2, c2, rfl⟩ := hs.form
  obtain ⟨⟨b1, m1, d1, rfl⟩, b2, m2, d2, rfl⟩ := ht.form
  cases hF : fitsB s
  · rw [hF] at h1
    have H1 := Lib.hid h1
    clear h1 h2 hF hs ht
    go_enter Tryz.func3, Tryz.ntmps3
    go_wp2_with (go_at_call 4; (first | (with_reducible refine (Ret.at_ext (H1.out _ (by repeat (first | (with_reducible exact Kp.refl _) | (with_reducible assumption) | (with_reducible apply Kp.ext) | (with_reducible apply Kp.alloc) | (with_reducible apply Kp.drew) | (with_reducible apply Kp.drewN) | (with_reducible refine Kp.setCell ?_ (by first | (dsimp only; omega) | (simp; omega) | (simp; done) | (simp [size_ext_eq]; omega)) _))))).mono ?_) | (with_reducible refine (H1.out _ (by repeat (first | (with_reducible exact Kp.refl _) | (with_reducible assumption) | (with_reducible apply Kp.ext) | (with_reducible apply Kp.alloc) | (with_reducible apply Kp.drew) | (with_reducible apply Kp.drewN) | (with_reducible refine Kp.setCell ?_ (by first | (dsimp only; omega) | (simp; omega) | (simp; done) | (simp [size_ext_eq]; omega)) _)))).mono ?_)); rintro e w' ⟨rfl, u, rfl⟩)
    go_ret
    exact Ret.mk rfl (by repeat (first | (with_reducible exact Kp.refl _) | (with_reducible assumption) | (with_reducible apply Kp.ext) | (with_reducible apply Kp.alloc) | (with_reducible apply Kp.drew) | (with_reducible apply Kp.drewN) | (with_reducible refine Kp.setCell ?_ (by first | (dsimp only; omega) | (simp; omega) | (simp; done) | (simp [size_ext_eq]; omega)) _)))
  cases hF' : fitsB t
  · rw [hF] at h1
    rw [hF'] at h2
    have H1 := Lib.hid h1
    have H2 := Lib.hid h2
    clear h1 h2 hF hF' hs ht
    go_enter Tryz.func3, Tryz.ntmps3
    go_wp2_with (first | (go_at_call 4; (first | (with_reducible refine (Ret.at_ext (H1.out _ (by repeat (first | (with_reducible exact Kp.refl _) | (with_reducible assumption) | (with_reducible apply Kp.ext) | (with_reducible apply Kp.alloc) | (with_reducible apply Kp.drew) | (with_reducible apply Kp.drewN) | (with_reducible refine Kp.setCell ?_ (by first | (dsimp only; omega) | (simp; omega) | (simp; done) | (simp [size_ext_eq]; omega)) _))))).mono ?_) | (with_reducible refine (H1.out _ (by repeat (first | (with_reducible exact Kp.refl _) | (with_reducible assumption) | (with_reducible apply Kp.ext) | (with_reducible apply Kp.alloc) | (with_reducible apply Kp.drew) | (with_reducible apply Kp.drewN) | (with_reducible refine Kp.setCell ?_ (by first | (dsimp only; omega) | (simp; omega) | (simp; done) | (simp [size_ext_eq]; omega)) _)))).mono ?_)); rintro e w' ⟨rfl, u, rfl⟩) | (go_at_call 4; (first | (with_reducible refine (Ret.at_ext (H2.out _ (by repeat (first | (with_reducible exact Kp.refl _) | (with_reducible assumption) | (with_reducible apply Kp.ext) | (with_reducible apply Kp.alloc) | (with_reducible apply Kp.drew) | (with_reducible apply Kp.drewN) | (with_reducible refine Kp.setCell ?_ (by first | (dsimp only; omega) | (simp; omega) | (simp; done) | (simp [size_ext_eq]; omega)) _))))).mono ?_) | (with_reducible refine (H2.out _ (by repeat (first | (with_reducible exact Kp.refl _) | (with_reducible assumption) | (with_reducible apply Kp.ext) | (with_reducible apply Kp.alloc) | (with_reducible apply Kp.drew) | (with_reducible apply Kp.drewN) | (with_reducible refine Kp.setCell ?_ (by first | (dsimp only; omega) | (simp; omega) | (simp; done) | (simp [size_ext_eq]; omega)) _)))).mono ?_)); rintro e w' ⟨rfl, u, rfl⟩))
    go_ret
    exact Ret.mk rfl (by repeat (first | (with_reducible exact Kp.refl _) | (with_reducible assumption) | (with_reducible apply Kp.ext) | (with_reducible apply Kp.alloc) | (with_reducible apply Kp.drew) | (with_reducible apply Kp.drewN) | (with_reducible refine Kp.setCell ?_ (by first | (dsimp only; omega) | (simp; omega) | (simp; done) | (simp [size_ext_eq]; omega)) _)))
  rw [hF] at h1
  rw [hF'] at h2
  have H1 := Lib.hid h1
  have H2 := Lib.hid h2
  obtain ⟨a', c', rs, hv, A⟩ := argA s _ _ w hs hF
  obtain ⟨rfl, rfl, rfl⟩ : _ ∧ _ ∧ _ := by simpa using hv
  obtain ⟨b', d', qs, hv', B⟩ := argA t _ _ w ht hF'
  obtain ⟨rfl, rfl, rfl⟩ : _ ∧ _ ∧ _ := by simpa using hv'
  have h3 := A.poly
  have h4 := B.poly
  cases hI : isPolyB s rs
  · rw [hI] at h3
    have H3 := Lib.hid h3
    clear h1 h2 h3 h4 hF hF' hs ht A B hI hv hv'
    go_enter Tryz.func3, Tryz.ntmps3
    go_wp2_with (first | (go_at_call 4; (first | (with_reducible refine (Ret.at_ext (H1.out _ (by repeat (first | (with_reducible exact Kp.refl _) | (with_reducible assumption) | (with_reducible apply Kp.ext) | (with_reducible apply Kp.alloc) | (with_reducible apply Kp.drew) | (with_reducible apply Kp.drewN) | (with_reducible refine Kp.setCell ?_ (by first | (dsimp only; omega) | (simp; omega) | (simp; done) | (simp [size_ext_eq]; omega)) _))))).mono ?_) | (with_reducible refine (H1.out _ (by repeat (first | (with_reducible exact Kp.refl _) | (with_reducible assumption) | (with_reducible apply Kp.ext) | (with_reducible apply Kp.alloc) | (with_reducible apply Kp.drew) | (with_reducible apply Kp.drewN) | (with_reducible refine Kp.setCell ?_ (by first | (dsimp only; omega) | (simp; omega) | (simp; done) | (simp [size_ext_eq]; omega)) _)))).mono ?_)); rintro e w' ⟨rfl, u, rfl⟩) | (go_at_call 4; (first | (with_reducible refine (Ret.at_ext (H2.out _ (by repeat (first | (with_reducible exact Kp.refl _) | (with_reducible assumption) | (with_reducible apply Kp.ext) | (with_reducible apply Kp.alloc) | (with_reducible apply Kp.drew) | (with_reducible apply Kp.drewN) | (with_reducible refine Kp.setCell ?_ (by first | (dsimp only; omega) | (simp; omega) | (simp; done) | (simp [size_ext_eq]; omega)) _))))).mono ?_) | (with_reducible refine (H2.out _ (by repeat (first | (with_reducible exact Kp.refl _) | (with_reducible assumption) | (with_reducible apply Kp.ext) | (with_reducible apply Kp.alloc) | (with_reducible apply Kp.drew) | (with_reducible apply Kp.drewN) | (with_reducible refine Kp.setCell ?_ (by first | (dsimp only; omega) | (simp; omega) | (simp; done) | (simp [size_ext_eq]; omega)) _)))).mono ?_)); rintro e w' ⟨rfl, u, rfl⟩) | (go_at_call 5; (first | (with_reducible refine (Ret.at_ext (H3.out _ (by repeat (first | (with_reducible exact Kp.refl _) | (with_reducible assumption) | (with_reducible apply Kp.ext) | (with_reducible apply Kp.alloc) | (with_reducible apply Kp.drew) | (with_reducible apply Kp.drewN) | (with_reducible refine Kp.setCell ?_ (by first | (dsimp only; omega) | (simp; omega) | (simp; done) | (simp [size_ext_eq]; omega)) _))))).mono ?_) | (with_reducible refine (H3.out _ (by repeat (first | (with_reducible exact Kp.refl _) | (with_reducible assumption) | (with_reducible apply Kp.ext) | (with_reducible apply Kp.alloc) | (with_reducible apply Kp.drew) | (with_reducible apply Kp.drewN) | (with_reducible refine Kp.setCell ?_ (by first | (dsimp only; omega) | (simp; omega) | (simp; done) | (simp [size_ext_eq]; omega)) _)))).mono ?_)); rintro e w' ⟨rfl, u, rfl⟩) | (go_at_call 7; (first | (with_reducible refine (Ret.at_ext (measures_c _)).mono ?_) | (with_reducible refine (measures_c _).mono ?_)); rintro e w' ⟨rfl, u, rfl⟩))
    go_ret
    exact Ret.mk rfl (by repeat (first | (with_reducible exact Kp.refl _) | (with_reducible assumption) | (with_reducible apply Kp.ext) | (with_reducible apply Kp.alloc) | (with_reducible apply Kp.drew) | (with_reducible apply Kp.drewN) | (with_reducible refine Kp.setCell ?_ (by first | (dsimp only; omega) | (simp; omega) | (simp; done) | (simp [size_ext_eq]; omega)) _)))
  cases hI' : isPolyB t qs
  · rw [hI] at h3
    rw [hI'] at h4
    have H3 := Lib.hid h3
    have H4 := Lib.hid h4
    clear h1 h2 h3 h4 hF hF' hs ht A B hI hI' hv hv'
    go_enter Tryz.func3, Tryz.ntmps3
    go_wp2_with (first | (go_at_call 4; (first | (with_reducible refine (Ret.at_ext (H1.out _ (by repeat (first | (with_reducible exact Kp.refl _) | (with_reducible assumption) | (with_reducible apply Kp.ext) | (with_reducible apply Kp.alloc) | (with_reducible apply Kp.drew) | (with_reducible apply Kp.drewN) | (with_reducible refine Kp.setCell ?_ (by first | (dsimp only; omega) | (simp; omega) | (simp; done) | (simp [size_ext_eq]; omega)) _))))).mono ?_) | (with_reducible refine (H1.out _ (by repeat (first | (with_reducible exact Kp.refl _) | (with_reducible assumption) | (with_reducible apply Kp.ext) | (with_reducible apply Kp.alloc) | (with_reducible apply Kp.drew) | (with_reducible apply Kp.drewN) | (with_reducible refine Kp.setCell ?_ (by first | (dsimp only; omega) | (simp; omega) | (simp; done) | (simp [size_ext_eq]; omega)) _)))).mono ?_)); rintro e w' ⟨rfl, u, rfl⟩) | (go_at_call 4; (first | (with_reducible refine (Ret.at_ext (H2.out _ (by repeat (first | (with_reducible exact Kp.refl _) | (with_reducible assumption) | (with_reducible apply Kp.ext) | (with_reducible apply Kp.alloc) | (with_reducible apply Kp.drew) | (with_reducible apply Kp.drewN) | (with_reducible refine Kp.setCell ?_ (by first | (dsimp only; omega) | (simp; omega) | (simp; done) | (simp [size_ext_eq]; omega)) _))))).mono ?_) | (with_reducible refine (H2.out _ (by repeat (first | (with_reducible exact Kp.refl _) | (with_reducible assumption) | (with_reducible apply Kp.ext) | (with_reducible apply Kp.alloc) | (with_reducible apply Kp.drew) | (with_reducible apply Kp.drewN) | (with_reducible refine Kp.setCell ?_ (by first | (dsimp only; omega) | (simp; omega) | (simp; done) | (simp [size_ext_eq]; omega)) _)))).mono ?_)); rintro e w' ⟨rfl, u, rfl⟩) | (go_at_call 5; (first | (with_reducible refine (Ret.at_ext (H3.out _ (by repeat (first | (with_reducible exact Kp.refl _) | (with_reducible assumption) | (with_reducible apply Kp.ext) | (with_reducible apply Kp.alloc) | (with_reducible apply Kp.drew) | (with_reducible apply Kp.drewN) | (with_reducible refine Kp.setCell ?_ (by first | (dsimp only; omega) | (simp; omega) | (simp; done) | (simp [size_ext_eq]; omega)) _))))).mono ?_) | (with_reducible refine (H3.out _ (by repeat (first | (with_reducible exact Kp.refl _) | (with_reducible assumption) | (with_reducible apply Kp.ext) | (with_reducible apply Kp.alloc) | (with_reducible apply Kp.drew) | (with_reducible apply Kp.drewN) | (with_reducible refine Kp.setCell ?_ (by first | (dsimp only; omega) | (simp; omega) | (simp; done) | (simp [size_ext_eq]; omega)) _)))).mono ?_)); rintro e w' ⟨rfl, u, rfl⟩) | (go_at_call 5; (first | (with_reducible refine (Ret.at_ext (H4.out _ (by repeat (first | (with_reducible exact Kp.refl _) | (with_reducible assumption) | (with_reducible apply Kp.ext) | (with_reducible apply Kp.alloc) | (with_reducible apply Kp.drew) | (with_reducible apply Kp.drewN) | (with_reducible refine Kp.setCell ?_ (by first | (dsimp only; omega) | (simp; omega) | (simp; done) | (simp [size_ext_eq]; omega)) _))))).mono ?_) | (with_reducible refine (H4.out _ (by repeat (first | (with_reducible exact Kp.refl _) | (with_reducible assumption) | (with_reducible apply Kp.ext) | (with_reducible apply Kp.alloc) | (with_reducible apply Kp.drew) | (with_reducible apply Kp.drewN) | (with_reducible refine Kp.setCell ?_ (by first | (dsimp only; omega) | (simp; omega) | (simp; done) | (simp [size_ext_eq]; omega)) _)))).mono ?_)); rintro e w' ⟨rfl, u, rfl⟩) | (go_at_call 7; (first | (with_reducible refine (Ret.at_ext (measures_c _)).mono ?_) | (with_reducible refine (measures_c _).mono ?_)); rintro e w' ⟨rfl, u, rfl⟩))
    go_ret
    exact Ret.mk rfl (by repeat (first | (with_reducible exact Kp.refl _) | (with_reducible assumption) | (with_reducible apply Kp.ext) | (with_reducible apply Kp.alloc) | (with_reducible apply Kp.drew) | (with_reducible apply Kp.drewN) | (with_reducible refine Kp.setCell ?_ (by first | (dsimp only; omega) | (simp; omega) | (simp; done) | (simp [size_ext_eq]; omega)) _)))
  rw [hI] at h3
  rw [hI'] at h4
  have H3 := Lib.hid h3
  have H4 := Lib.hid h4
  obtain ⟨K3, k2, k0, k6⟩ := poly_len hI
  obtain ⟨J3, j2, j0, j6⟩ := poly_len hI'
  have HK3 := Lib.hid K3
  have HJ3 := Lib.hid J3
  clear K3 J3
  obtain ⟨Ps, hR⟩ := isPoly_facts2 A.simple hI
  obtain ⟨Qs, hQ⟩ := isPoly_facts2 B.simple hI'
  have h5 := Lib.hid (fun w' (hk : Kp w w') => areaSh_c (.int .i64 s.kind) (.slice a2 n2 c2) s.lists _ _ w' (A.lists.kp hk) k0 k6 Ps hR)
  have h6 := Lib.hid (fun w' (hk : Kp w w') => areaSh_c (.int .i64 t.kind) (.slice b2 m2 d2) t.lists _ _ w' (B.lists.kp hk) j0 j6 Qs hQ)
  by_cases q1 : polA s.lists Ps < 0
  · clear h1 h2 h3 h4 hF hF' hs ht A B hI hI' hv hv' hR hQ h6
    go_enter Tryz.func3, Tryz.ntmps3
    go_wp2_with (first | (go_at_call 4; (first | (with_reducible refine (Ret.at_ext (H1.out _ (by repeat (first | (with_reducible exact Kp.refl _) | (with_reducible assumption) | (with_reducible apply Kp.ext) | (with_reducible apply Kp.alloc) | (with_reducible apply Kp.drew) | (with_reducible apply Kp.drewN) | (with_reducible refine Kp.setCell ?_ (by first | (dsimp only; omega) | (simp; omega) | (simp; done) | (simp [size_ext_eq]; omega)) _))))).mono ?_) | (with_reducible refine (H1.out _ (by repeat (first | (with_reducible exact Kp.refl _) | (with_reducible assumption) | (with_reducible apply Kp.ext) | (with_reducible apply Kp.alloc) | (with_reducible apply Kp.drew) | (with_reducible apply Kp.drewN) | (with_reducible refine Kp.setCell ?_ (by first | (dsimp only; omega) | (simp; omega) | (simp; done) | (simp [size_ext_eq]; omega)) _)))).mono ?_)); rintro e w' ⟨rfl, u, rfl⟩) | (go_at_call 4; (first | (with_reducible refine (Ret.at_ext (H2.out _ (by repeat (first | (with_reducible exact Kp.refl _) | (with_reducible assumption) | (with_reducible apply Kp.ext) | (with_reducible apply Kp.alloc) | (with_reducible apply Kp.drew) | (with_reducible apply Kp.drewN) | (with_reducible refine Kp.setCell ?_ (by first | (dsimp only; omega) | (simp; omega) | (simp; done) | (simp [size_ext_eq]; omega)) _))))).mono ?_) | (with_reducible refine (H2.out _ (by repeat (first | (with_reducible exact Kp.refl _) | (with_reducible assumption) | (with_reducible apply Kp.ext) | (with_reducible apply Kp.alloc) | (with_reducible apply Kp.drew) | (with_reducible apply Kp.drewN) | (with_reducible refine Kp.setCell ?_ (by first | (dsimp only; omega) | (simp; omega) | (simp; done) | (simp [size_ext_eq]; omega)) _)))).mono ?_)); rintro e w' ⟨rfl, u, rfl⟩) | (go_at_call 5; (first | (with_reducible refine (Ret.at_ext (H3.out _ (by repeat (first | (with_reducible exact Kp.refl _) | (with_reducible assumption) | (with_reducible apply Kp.ext) | (with_reducible apply Kp.alloc) | (with_reducible apply Kp.drew) | (with_reducible apply Kp.drewN) | (with_reducible refine Kp.setCell ?_ (by first | (dsimp only; omega) | (simp; omega) | (simp; done) | (simp [size_ext_eq]; omega)) _))))).mono ?_) | (with_reducible refine (H3.out _ (by repeat (first | (with_reducible exact Kp.refl _) | (with_reducible assumption) | (with_reducible apply Kp.ext) | (with_reducible apply Kp.alloc) | (with_reducible apply Kp.drew) | (with_reducible apply Kp.drewN) | (with_reducible refine Kp.setCell ?_ (by first | (dsimp only; omega) | (simp; omega) | (simp; done) | (simp [size_ext_eq]; omega)) _)))).mono ?_)); rintro e w' ⟨rfl, u, rfl⟩) | (go_at_call 5; (first | (with_reducible refine (Ret.at_ext (H4.out _ (by repeat (first | (with_reducible exact Kp.refl _) | (with_reducible assumption) | (with_reducible apply Kp.ext) | (with_reducible apply Kp.alloc) | (with_reducible apply Kp.drew) | (with_reducible apply Kp.drewN) | (with_reducible refine Kp.setCell ?_ (by first | (dsimp only; omega) | (simp; omega) | (simp; done) | (simp [size_ext_eq]; omega)) _))))).mono ?_) | (with_reducible refine (H4.out _ (by repeat (first | (with_reducible exact Kp.refl _) | (with_reducible assumption) | (with_reducible apply Kp.ext) | (with_reducible apply Kp.alloc) | (with_reducible apply Kp.drew) | (with_reducible apply Kp.drewN) | (with_reducible refine Kp.setCell ?_ (by first | (dsimp only; omega) | (simp; omega) | (simp; done) | (simp [size_ext_eq]; omega)) _)))).mono ?_)); rintro e w' ⟨rfl, u, rfl⟩) | (go_at_call 7; (first | (with_reducible refine (Ret.at_ext (measures_c _)).mono ?_) | (with_reducible refine (measures_c _).mono ?_)); rintro e w' ⟨rfl, u, rfl⟩) | (go_at_call 6; (with_reducible refine (h5.out _ (by repeat (first | (with_reducible exact Kp.refl _) | (with_reducible assumption) | (with_reducible apply Kp.ext) | (with_reducible apply Kp.alloc) | (with_reducible apply Kp.drew) | (with_reducible apply Kp.drewN) | (with_reducible refine Kp.setCell ?_ (by first | (dsimp only; omega) | (simp; omega) | (simp; done) | (simp [size_ext_eq]; omega)) _)))).mono ?_); rintro e w2 ⟨x, rfl, hvx, u, rfl⟩; have hlt := half_ltF hvx; rw [decide_eq_true q1] at hlt))
    go_ret
    exact Ret.mk rfl (by repeat (first | (with_reducible exact Kp.refl _) | (with_reducible assumption) | (with_reducible apply Kp.ext) | (with_reducible apply Kp.alloc) | (with_reducible apply Kp.drew) | (with_reducible apply Kp.drewN) | (with_reducible refine Kp.setCell ?_ (by first | (dsimp only; omega) | (simp; omega) | (simp; done) | (simp [size_ext_eq]; omega)) _)))
  by_cases q2 : polA t.lists Qs < 0
  · clear h1 h2 h3 h4 hF hF' hs ht A B hI hI' hv hv' hR hQ
    go_enter Tryz.func3, Tryz.ntmps3
    go_wp2_with (first | (go_at_call 4; (first | (with_reducible refine (Ret.at_ext (H1.out _ (by repeat (first | (with_reducible exact Kp.refl _) | (with_reducible assumption) | (with_reducible apply Kp.ext) | (with_reducible apply Kp.alloc) | (with_reducible apply Kp.drew) | (with_reducible apply Kp.drewN) | (with_reducible refine Kp.setCell ?_ (by first | (dsimp only; omega) | (simp; omega) | (simp; done) | (simp [size_ext_eq]; omega)) _))))).mono ?_) | (with_reducible refine (H1.out _ (by repeat (first | (with_reducible exact Kp.refl _) | (with_reducible assumption) | (with_reducible apply Kp.ext) | (with_reducible apply Kp.alloc) | (with_reducible apply Kp.drew) | (with_reducible apply Kp.drewN) | (with_reducible refine Kp.setCell ?_ (by first | (dsimp only; omega) | (simp; omega) | (simp; done) | (simp [size_ext_eq]; omega)) _)))).mono ?_)); rintro e w' ⟨rfl, u, rfl⟩) | (go_at_call 4; (first | (with_reducible refine (Ret.at_ext (H2.out _ (by repeat (first | (with_reducible exact Kp.refl _) | (with_reducible assumption) | (with_reducible apply Kp.ext) | (with_reducible apply Kp.alloc) | (with_reducible apply Kp.drew) | (with_reducible apply Kp.drewN) | (with_reducible refine Kp.setCell ?_ (by first | (dsimp only; omega) | (simp; omega) | (simp; done) | (simp [size_ext_eq]; omega)) _))))).mono ?_) | (with_reducible refine (H2.out _ (by repeat (first | (with_reducible exact Kp.refl _) | (with_reducible assumption) | (with_reducible apply Kp.ext) | (with_reducible apply Kp.alloc) | (with_reducible apply Kp.drew) | (with_reducible apply Kp.drewN) | (with_reducible refine Kp.setCell ?_ (by first | (dsimp only; omega) | (simp; omega) | (simp; done) | (simp [size_ext_eq]; omega)) _)))).mono ?_)); rintro e w' ⟨rfl, u, rfl⟩) | (go_at_call 5; (first | (with_reducible refine (Ret.at_ext (H3.out _ (by repeat (first | (with_reducible exact Kp.refl _) | (with_reducible assumption) | (with_reducible apply Kp.ext) | (with_reducible apply Kp.alloc) | (with_reducible apply Kp.drew) | (with_reducible apply Kp.drewN) | (with_reducible refine Kp.setCell ?_ (by first | (dsimp only; omega) | (simp; omega) | (simp; done) | (simp [size_ext_eq]; omega)) _))))).mono ?_) | (with_reducible refine (H3.out _ (by repeat (first | (with_reducible exact Kp.refl _) | (with_reducible assumption) | (with_reducible apply Kp.ext) | (with_reducible apply Kp.alloc) | (with_reducible apply Kp.drew) | (with_reducible apply Kp.drewN) | (with_reducible refine Kp.setCell ?_ (by first | (dsimp only; omega) | (simp; omega) | (simp; done) | (simp [size_ext_eq]; omega)) _)))).mono ?_)); rintro e w' ⟨rfl, u, rfl⟩) | (go_at_call 5; (first | (with_reducible refine (Ret.at_ext (H4.out _ (by repeat (first | (with_reducible exact Kp.refl _) | (with_reducible assumption) | (with_reducible apply Kp.ext) | (with_reducible apply Kp.alloc) | (with_reducible apply Kp.drew) | (with_reducible apply Kp.drewN) | (with_reducible refine Kp.setCell ?_ (by first | (dsimp only; omega) | (simp; omega) | (simp; done) | (simp [size_ext_eq]; omega)) _))))).mono ?_) | (with_reducible refine (H4.out _ (by repeat (first | (with_reducible exact Kp.refl _) | (with_reducible assumption) | (with_reducible apply Kp.ext) | (with_reducible apply Kp.alloc) | (with_reducible apply Kp.drew) | (with_reducible apply Kp.drewN) | (with_reducible refine Kp.setCell ?_ (by first | (dsimp only; omega) | (simp; omega) | (simp; done) | (simp [size_ext_eq]; omega)) _)))).mono ?_)); rintro e w' ⟨rfl, u, rfl⟩) | (go_at_call 7; (first | (with_reducible refine (Ret.at_ext (measures_c _)).mono ?_) | (with_reducible refine (measures_c _).mono ?_)); rintro e w' ⟨rfl, u, rfl⟩) | (go_at_call 6; (with_reducible refine (h5.out _ (by repeat (first | (with_reducible exact Kp.refl _) | (with_reducible assumption) | (with_reducible apply Kp.ext) | (with_reducible apply Kp.alloc) | (with_reducible apply Kp.drew) | (with_reducible apply Kp.drewN) | (with_reducible refine Kp.setCell ?_ (by first | (dsimp only; omega) | (simp; omega) | (simp; done) | (simp [size_ext_eq]; omega)) _)))).mono ?_); rintro e w2 ⟨x, rfl, hvx, u, rfl⟩; have hlt := half_ltF hvx; rw [decide_eq_false (by omega)] at hlt) | (go_at_call 6; (with_reducible refine (h6.out _ (by repeat (first | (with_reducible exact Kp.refl _) | (with_reducible assumption) | (with_reducible apply Kp.ext) | (with_reducible apply Kp.alloc) | (with_reducible apply Kp.drew) | (with_reducible apply Kp.drewN) | (with_reducible refine Kp.setCell ?_ (by first | (dsimp only; omega) | (simp; omega) | (simp; done) | (simp [size_ext_eq]; omega)) _)))).mono ?_); rintro e w3 ⟨x', rfl, hvx', u', rfl⟩; have hlt' := half_ltF hvx'; rw [decide_eq_true q2] at hlt'))
    go_ret
    exact Ret.mk rfl (by repeat (first | (with_reducible exact Kp.refl _) | (with_reducible assumption) | (with_reducible apply Kp.ext) | (with_reducible apply Kp.alloc) | (with_reducible apply Kp.drew) | (with_reducible apply Kp.drewN) | (with_reducible refine Kp.setCell ?_ (by first | (dsimp only; omega) | (simp; omega) | (simp; done) | (simp [size_ext_eq]; omega)) _)))
  have e1 : s.parts = [] := poly_parts HK3.out (isSh_facts k2).1
  have e2 : t.parts = [] := poly_parts HJ3.out (isSh_facts j2).1
  have bP : ∀ {ls : List (List (Nat × Nat))} {Ps : Nat → Nat → Int × Int}, RingsD ls Ps → 0 < ls.length → polA ls Ps ≤ 8000000000 := fun {ls Ps} h h0 => by
    have := (dbl_bd (h 0 h0)).2
    have hh := holesTo_nn (dblA ls Ps) (ls.length - 1)
    unfold polA
    have e : dblA ls Ps 0 = dblP (Ps 0) ((ls[0]'h0).length - 1) := by unfold dblA; rw [getD_l _ _ h0]
    rw [e]
    omega
  have hAs := Lib.hid (fun w' (hk : Kp w w') => areaS_c s _ _ w' (hs.kp hk) HK3.out k2 k0 k6 Ps hR)
  have hAb := Lib.hid (fun w' (hk : Kp w w') (g : Nat) (hg : g < w'.heap.size) q0 q1 q2 q3 q4 q5 => areaB_c s t _ w' (two_in (n := 2) hg (flat_in (e := 0) e1 (hs.kp hk)) (flat_in (e := 0) e2 (ht.kp hk)) q0 q1 q2 q3 q4 q5 rfl) HK3.out HJ3.out (flat_cnt e1 (isSh_facts k2).1) (flat_cnt e2 (isSh_facts j2).1) (flat_small e1 (isSh_facts k2).2) (flat_small e2 (isSh_facts j2).2) k0 k6 Ps hR j0 j6 Qs hQ ⟨by omega, bP hR k0⟩ ⟨by omega, bP hQ j0⟩)
  have hAl := Lib.hid (fun w' (hk : Kp w w') => areaL_c _ _ (hR 0 k0) _ w' (head_in (A.lists.kp hk) k0))
  have hAp := Lib.hid (fun w' (hk : Kp w w') => areaP_c _ _ (hR 0 k0) _ w' (head_in (A.lists.kp hk) k0))
  have B1 := Lib.hid (bP hR k0)
  have B2 := Lib.hid (bP hQ j0)
  have l1 : (1 : Int) ≤ (s.lists.length : Int) := by omega
  have l2 : 1 ≤ s.lists.length := by omega
  have l3 : s.lists.length ≤ c1 := by obtain ⟨_, _, _, _, hc, _⟩ := slice_tail A.lists k0; exact hc
  have l4 : (1 : Int) ≤ (c1 : Int) := by omega
  clear h1 h2 h3 h4 hF hF' hs ht A B hI hI' hv hv' hR hQ e1 e2 bP k2 j2 k0 k6 j0 j6
  have Q1 := Lib.hid q1
  have Q2 := Lib.hid q2
  clear q1 q2
  go_enter Tryz.func3, Tryz.ntmps3
  go_wp2_with (first | (go_at_call 4; (first | (with_reducible refine (Ret.at_ext (H1.out _ (by repeat (first | (with_reducible exact Kp.refl _) | (with_reducible assumption) | (with_reducible apply Kp.ext) | (with_reducible apply Kp.alloc) | (with_reducible apply Kp.drew) | (with_reducible apply Kp.drewN) | (with_reducible refine Kp.setCell ?_ (by first | (dsimp only; omega) | (simp; omega) | (simp; done) | (simp [size_ext_eq]; omega)) _))))).mono ?_) | (with_reducible refine (H1.out _ (by repeat (first | (with_reducible exact Kp.refl _) | (with_reducible assumption) | (with_reducible apply Kp.ext) | (with_reducible apply Kp.alloc) | (with_reducible apply Kp.drew) | (with_reducible apply Kp.drewN) | (with_reducible refine Kp.setCell ?_ (by first | (dsimp only; omega) | (simp; omega) | (simp; done) | (simp [size_ext_eq]; omega)) _)))).mono ?_)); rintro e w' ⟨rfl, u, rfl⟩) | (go_at_call 4; (first | (with_reducible refine (Ret.at_ext (H2.out _ (by repeat (first | (with_reducible exact Kp.refl _) | (with_reducible assumption) | (with_reducible apply Kp.ext) | (with_reducible apply Kp.alloc) | (with_reducible apply Kp.drew) | (with_reducible apply Kp.drewN) | (with_reducible refine Kp.setCell ?_ (by first | (dsimp only; omega) | (simp; omega) | (simp; done) | (simp [size_ext_eq]; omega)) _))))).mono ?_) | (with_reducible refine (H2.out _ (by repeat (first | (with_reducible exact Kp.refl _) | (with_reducible assumption) | (with_reducible apply Kp.ext) | (with_reducible apply Kp.alloc) | (with_reducible apply Kp.drew) | (with_reducible apply Kp.drewN) | (with_reducible refine Kp.setCell ?_ (by first | (dsimp only; omega) | (simp; omega) | (simp; done) | (simp [size_ext_eq]; omega)) _)))).mono ?_)); rintro e w' ⟨rfl, u, rfl⟩) | (go_at_call 5; (first | (with_reducible refine (Ret.at_ext (H3.out _ (by repeat (first | (with_reducible exact Kp.refl _) | (with_reducible assumption) | (with_reducible apply Kp.ext) | (with_reducible apply Kp.alloc) | (with_reducible apply Kp.drew) | (with_reducible apply Kp.drewN) | (with_reducible refine Kp.setCell ?_ (by first | (dsimp only; omega) | (simp; omega) | (simp; done) | (simp [size_ext_eq]; omega)) _))))).mono ?_) | (with_reducible refine (H3.out _ (by repeat (first | (with_reducible exact Kp.refl _) | (with_reducible assumption) | (with_reducible apply Kp.ext) | (with_reducible apply Kp.alloc) | (with_reducible apply Kp.drew) | (with_reducible apply Kp.drewN) | (with_reducible refine Kp.setCell ?_ (by first | (dsimp only; omega) | (simp; omega) | (simp; done) | (simp [size_ext_eq]; omega)) _)))).mono ?_)); rintro e w' ⟨rfl, u, rfl⟩) | (go_at_call 5; (first | (with_reducible refine (Ret.at_ext (H4.out _ (by repeat (first | (with_reducible exact Kp.refl _) | (with_reducible assumption) | (with_reducible apply Kp.ext) | (with_reducible apply Kp.alloc) | (with_reducible apply Kp.drew) | (with_reducible apply Kp.drewN) | (with_reducible refine Kp.setCell ?_ (by first | (dsimp only; omega) | (simp; omega) | (simp; done) | (simp [size_ext_eq]; omega)) _))))).mono ?_) | (with_reducible refine (H4.out _ (by repeat (first | (with_reducible exact Kp.refl _) | (with_reducible assumption) | (with_reducible apply Kp.ext) | (with_reducible apply Kp.alloc) | (with_reducible apply Kp.drew) | (with_reducible apply Kp.drewN) | (with_reducible refine Kp.setCell ?_ (by first | (dsimp only; omega) | (simp; omega) | (simp; done) | (simp [size_ext_eq]; omega)) _)))).mono ?_)); rintro e w' ⟨rfl, u, rfl⟩) | (go_at_call 7; (first | (with_reducible refine (Ret.at_ext (measures_c _)).mono ?_) | (with_reducible refine (measures_c _).mono ?_)); rintro e w' ⟨rfl, u, rfl⟩) | (go_at_call 6; (with_reducible refine (h5.out _ (by repeat (first | (with_reducible exact Kp.refl _) | (with_reducible assumption) | (with_reducible apply Kp.ext) | (with_reducible apply Kp.alloc) | (with_reducible apply Kp.drew) | (with_reducible apply Kp.drewN) | (with_reducible refine Kp.setCell ?_ (by first | (dsimp only; omega) | (simp; omega) | (simp; done) | (simp [size_ext_eq]; omega)) _)))).mono ?_); rintro e w2 ⟨x, rfl, hvx, u, rfl⟩; have hlt := half_ltF hvx; rw [decide_eq_false (Int.not_lt.2 Q1.out)] at hlt; clear hvx) | (go_at_call 6; (with_reducible refine (h6.out _ (by repeat (first | (with_reducible exact Kp.refl _) | (with_reducible assumption) | (with_reducible apply Kp.ext) | (with_reducible apply Kp.alloc) | (with_reducible apply Kp.drew) | (with_reducible apply Kp.drewN) | (with_reducible refine Kp.setCell ?_ (by first | (dsimp only; omega) | (simp; omega) | (simp; done) | (simp [size_ext_eq]; omega)) _)))).mono ?_); rintro e w3 ⟨x', rfl, hvx', u', rfl⟩; have hlt' := half_ltF hvx'; rw [decide_eq_false (Int.not_lt.2 Q2.out)] at hlt'; clear hvx'))
  refine wp_region_ord 29 [(0, true), (1, true), (2, false), (4, false), (3, true), (5, true), (6, true), (7, true), (8, true), (9, false), (11, false), (13, false), (10, true), (12, true), (14, true), (15, true), (16, true), (17, true), (18, true), (19, true), (20, true), (21, true), (22, true), (23, true), (24, true), (25, true), (26, true), (27, true), (28, true)] ?_ ?_ ?_ ?_
  · kernel_rfl
  · kernel_rfl
  · exact fun _ _ d _ _ h => by cases d <;> exact h
  refine wpOrd_do rfl ?_
  go_wp2_with (go_at_call 7; (first | (with_reducible refine (Ret.at_ext (measures_c _)).mono ?_) | (with_reducible refine (measures_c _).mono ?_)); rintro e w' ⟨rfl, u, rfl⟩)
  rw [midQ_normal]
  refine ⟨⟨_, ext_of (show Kp _ _ from (by repeat (first | (with_reducible exact Kp.refl _) | (with_reducible assumption) | (with_reducible apply Kp.ext) | (with_reducible apply Kp.alloc) | (with_reducible apply Kp.drew) | (with_reducible apply Kp.drewN) | (with_reducible refine Kp.setCell ?_ (by first | (dsimp only; omega) | (simp; omega) | (simp; done) | (simp [size_ext_eq]; omega)) _))))⟩, ?_⟩
  refine wpOrd_do rfl ?_
  go_wp2_with fail
  rw [midQ_normal]
  refine ⟨⟨_, ext_of (show Kp _ _ from (by repeat (first | (with_reducible exact Kp.refl _) | (with_reducible assumption) | (with_reducible apply Kp.ext) | (with_reducible apply Kp.alloc) | (with_reducible apply Kp.drew) | (with_reducible apply Kp.drewN) | (with_reducible refine Kp.setCell ?_ (by first | (dsimp only; omega) | (simp; omega) | (simp; done) | (simp [size_ext_eq]; omega)) _))))⟩, ?_⟩
  refine wpOrd_take rfl (.agg #[.int .i64 s.kind, .slice a1 s.lists.length c1, .slice a2 n2 c2]) (Or.inl ⟨by rfl, ?_⟩) ?_
  · rintro x ⟨ux, rfl⟩
    go_simp
  simp only [Act.put, List.setIfInBounds_toArray, List.set_cons_zero, List.set_cons_succ]
  refine wpOrd_take rfl (.agg #[.int .i64 s.kind, .slice a1 s.lists.length c1, .slice a2 n2 c2]) (Or.inl ⟨by rfl, ?_⟩) ?_
  · rintro x ⟨ux, rfl⟩
    go_simp
  simp only [Act.put, List.setIfInBounds_toArray, List.set_cons_zero, List.set_cons_succ]
  refine wpOrd_do rfl ?_
  go_wp2_with (go_at_call 8; (with_reducible refine (hAs.out _ (by repeat (first | (with_reducible exact Kp.refl _) | (with_reducible assumption) | (with_reducible apply Kp.ext) | (with_reducible apply Kp.alloc) | (with_reducible apply Kp.drew) | (with_reducible apply Kp.drewN) | (with_reducible refine Kp.setCell ?_ (by first | (dsimp only; omega) | (simp; omega) | (simp; done) | (simp [size_ext_eq]; omega)) _)))).mono ?_); rintro e v3 ⟨x3, rfl, hx3, u3, rfl⟩)
  rw [midQ_normal]
  refine ⟨⟨_, ext_of (show Kp _ _ from (by repeat (first | (with_reducible exact Kp.refl _) | (with_reducible assumption) | (with_reducible apply Kp.ext) | (with_reducible apply Kp.alloc) | (with_reducible apply Kp.drew) | (with_reducible apply Kp.drewN) | (with_reducible refine Kp.setCell ?_ (by first | (dsimp only; omega) | (simp; omega) | (simp; done) | (simp [size_ext_eq]; omega)) _))))⟩, ?_⟩
  refine wpOrd_do rfl ?_
  go_wp2_with (go_at_call 6; (with_reducible refine (h5.out _ (by repeat (first | (with_reducible exact Kp.refl _) | (with_reducible assumption) | (with_reducible apply Kp.ext) | (with_reducible apply Kp.alloc) | (with_reducible apply Kp.drew) | (with_reducible apply Kp.drewN) | (with_reducible refine Kp.setCell ?_ (by first | (dsimp only; omega) | (simp; omega) | (simp; done) | (simp [size_ext_eq]; omega)) _)))).mono ?_); rintro e v5 ⟨x5, rfl, hx5, u5, rfl⟩)
  have q35 : eqF x3 x5 = true := by rw [eqF_isV hx3 hx5]; simp
  rw [midQ_normal]
  refine ⟨⟨_, ext_of (show Kp _ _ from (by repeat (first | (with_reducible exact Kp.refl _) | (with_reducible assumption) | (with_reducible apply Kp.ext) | (with_reducible apply Kp.alloc) | (with_reducible apply Kp.drew) | (with_reducible apply Kp.drewN) | (with_reducible refine Kp.setCell ?_ (by first | (dsimp only; omega) | (simp; omega) | (simp; done) | (simp [size_ext_eq]; omega)) _))))⟩, ?_⟩
  refine wpOrd_do rfl ?_
  go_wp2_with fail
  rw [midQ_normal]
  refine ⟨⟨_, ext_of (show Kp _ _ from (by repeat (first | (with_reducible exact Kp.refl _) | (with_reducible assumption) | (with_reducible apply Kp.ext) | (with_reducible apply Kp.alloc) | (with_reducible apply Kp.drew) | (with_reducible apply Kp.drewN) | (with_reducible refine Kp.setCell ?_ (by first | (dsimp only; omega) | (simp; omega) | (simp; done) | (simp [size_ext_eq]; omega)) _))))⟩, ?_⟩
  refine wpOrd_do rfl ?_
  go_wp2_with fail
  rw [midQ_normal]
  refine ⟨⟨_, ext_of (show Kp _ _ from (by repeat (first | (with_reducible exact Kp.refl _) | (with_reducible assumption) | (with_reducible apply Kp.ext) | (with_reducible apply Kp.alloc) | (with_reducible apply Kp.drew) | (with_reducible apply Kp.drewN) | (with_reducible refine Kp.setCell ?_ (by first | (dsimp only; omega) | (simp; omega) | (simp; done) | (simp [size_ext_eq]; omega)) _))))⟩, ?_⟩
  refine wpOrd_do rfl ?_
  go_wp2_with fail
  rw [midQ_normal]
  refine ⟨⟨_, ext_of (show Kp _ _ from (by repeat (first | (with_reducible exact Kp.refl _) | (with_reducible assumption) | (with_reducible apply Kp.ext) | (with_reducible apply Kp.alloc) | (with_reducible apply Kp.drew) | (with_reducible apply Kp.drewN) | (with_reducible refine Kp.setCell ?_ (by first | (dsimp only; omega) | (simp; omega) | (simp; done) | (simp [size_ext_eq]; omega)) _))))⟩, ?_⟩
  refine wpOrd_take rfl ?v9 (Or.inl ⟨by rfl, ?h9⟩) ?r9
  case h9 =>
    rintro x ⟨ux, rfl⟩
    go_simp
    rfl
  case r9 =>
  simp only [Act.put, List.setIfInBounds_toArray, List.set_cons_zero, List.set_cons_succ]
  refine wpOrd_take rfl (.agg #[.int .i64 s.kind, .slice a1 s.lists.length c1, .slice a2 n2 c2]) (Or.inl ⟨by rfl, ?_⟩) ?_
  · rintro x ⟨ux, rfl⟩
    go_simp
  simp only [Act.put, List.setIfInBounds_toArray, List.set_cons_zero, List.set_cons_succ]
  refine wpOrd_take rfl (.agg #[.int .i64 t.kind, .slice b1 t.lists.length d1, .slice b2 m2 d2]) (Or.inl ⟨by rfl, ?_⟩) ?_
  · rintro x ⟨ux, rfl⟩
    go_simp
  simp only [Act.put, List.setIfInBounds_toArray, List.set_cons_zero, List.set_cons_succ]
  refine wpOrd_do rfl ?_
  go_wp2_with (go_at_call 8; (with_reducible refine (hAb.out _ (by repeat (first | (with_reducible exact Kp.refl _) | (with_reducible assumption) | (with_reducible apply Kp.ext) | (with_reducible apply Kp.alloc) | (with_reducible apply Kp.drew) | (with_reducible apply Kp.drewN) | (with_reducible refine Kp.setCell ?_ (by first | (dsimp only; omega) | (simp; omega) | (simp; done) | (simp [size_ext_eq]; omega)) _))) _ (by simp [go_sem, size_ext_eq]; try omega) (by simp [go_sem, size_ext_eq]) (by simp [go_sem, size_ext_eq]) (by simp [go_sem, size_ext_eq]) (by simp [go_sem, size_ext_eq]) (by simp [go_sem, size_ext_eq]) (by simp [go_sem, size_ext_eq])).mono ?_); rintro e v10 ⟨x10, rfl, hx10, u10, rfl⟩)
  rw [midQ_normal]
  refine ⟨⟨_, ext_of (show Kp _ _ from (by repeat (first | (with_reducible exact Kp.refl _) | (with_reducible assumption) | (with_reducible apply Kp.ext) | (with_reducible apply Kp.alloc) | (with_reducible apply Kp.drew) | (with_reducible apply Kp.drewN) | (with_reducible refine Kp.setCell ?_ (by first | (dsimp only; omega) | (simp; omega) | (simp; done) | (simp [size_ext_eq]; omega)) _))))⟩, ?_⟩
  refine wpOrd_do rfl ?_
  go_wp2_with (go_at_call 6; (with_reducible refine (h5.out _ (by repeat (first | (with_reducible exact Kp.refl _) | (with_reducible assumption) | (with_reducible apply Kp.ext) | (with_reducible apply Kp.alloc) | (with_reducible apply Kp.drew) | (with_reducible apply Kp.drewN) | (with_reducible refine Kp.setCell ?_ (by first | (dsimp only; omega) | (simp; omega) | (simp; done) | (simp [size_ext_eq]; omega)) _)))).mono ?_); rintro e v12 ⟨x12, rfl, hx12, u12, rfl⟩)
  rw [midQ_normal]
  refine ⟨⟨_, ext_of (show Kp _ _ from (by repeat (first | (with_reducible exact Kp.refl _) | (with_reducible assumption) | (with_reducible apply Kp.ext) | (with_reducible apply Kp.alloc) | (with_reducible apply Kp.drew) | (with_reducible apply Kp.drewN) | (with_reducible refine Kp.setCell ?_ (by first | (dsimp only; omega) | (simp; omega) | (simp; done) | (simp [size_ext_eq]; omega)) _))))⟩, ?_⟩
  refine wpOrd_do rfl ?_
  go_wp2_with (go_at_call 6; (with_reducible refine (h6.out _ (by repeat (first | (with_reducible exact Kp.refl _) | (with_reducible assumption) | (with_reducible apply Kp.ext) | (with_reducible apply Kp.alloc) | (with_reducible apply Kp.drew) | (with_reducible apply Kp.drewN) | (with_reducible refine Kp.setCell ?_ (by first | (dsimp only; omega) | (simp; omega) | (simp; done) | (simp [size_ext_eq]; omega)) _)))).mono ?_); rintro e v14 ⟨x14, rfl, hx14, u14, rfl⟩)
  obtain ⟨okA, hvA⟩ := add_half hx12 hx14 (by have := Q1.out; have := Q2.out; have := B1.out; have := B2.out; omega)
  have qA : eqF x10 (fop .add x12 x14) = true := by rw [eqF_isV hx10 hvA]; simp
  rw [midQ_normal]
  refine ⟨⟨_, ext_of (show Kp _ _ from (by repeat (first | (with_reducible exact Kp.refl _) | (with_reducible assumption) | (with_reducible apply Kp.ext) | (with_reducible apply Kp.alloc) | (with_reducible apply Kp.drew) | (with_reducible apply Kp.drewN) | (with_reducible refine Kp.setCell ?_ (by first | (dsimp only; omega) | (simp; omega) | (simp; done) | (simp [size_ext_eq]; omega)) _))))⟩, ?_⟩
  refine wpOrd_do rfl ?_
  go_wp2_with fail
  rw [midQ_normal]
  refine ⟨⟨_, ext_of (show Kp _ _ from (by repeat (first | (with_reducible exact Kp.refl _) | (with_reducible assumption) | (with_reducible apply Kp.ext) | (with_reducible apply Kp.alloc) | (with_reducible apply Kp.drew) | (with_reducible apply Kp.drewN) | (with_reducible refine Kp.setCell ?_ (by first | (dsimp only; omega) | (simp; omega) | (simp; done) | (simp [size_ext_eq]; omega)) _))))⟩, ?_⟩
  refine wpOrd_do rfl ?_
  go_wp2_with fail
  rw [midQ_normal]
  refine ⟨⟨_, ext_of (show Kp _ _ from (by repeat (first | (with_reducible exact Kp.refl _) | (with_reducible assumption) | (with_reducible apply Kp.ext) | (with_reducible apply Kp.alloc) | (with_reducible apply Kp.drew) | (with_reducible apply Kp.drewN) | (with_reducible refine Kp.setCell ?_ (by first | (dsimp only; omega) | (simp; omega) | (simp; done) | (simp [size_ext_eq]; omega)) _))))⟩, ?_⟩
  refine wpOrd_do rfl ?_
  go_wp2_with fail
  rw [midQ_normal]
  refine ⟨⟨_, ext_of (show Kp _ _ from (by repeat (first | (with_reducible exact Kp.refl _) | (with_reducible assumption) | (with_reducible apply Kp.ext) | (with_reducible apply Kp.alloc) | (with_reducible apply Kp.drew) | (with_reducible apply Kp.drewN) | (with_reducible refine Kp.setCell ?_ (by first | (dsimp only; omega) | (simp; omega) | (simp; done) | (simp [size_ext_eq]; omega)) _))))⟩, ?_⟩
  refine wpOrd_do rfl ?_
  go_wp2_with fail
  rw [midQ_normal]
  refine ⟨⟨_, ext_of (show Kp _ _ from (by repeat (first | (with_reducible exact Kp.refl _) | (with_reducible assumption) | (with_reducible apply Kp.ext) | (with_reducible apply Kp.alloc) | (with_reducible apply Kp.drew) | (with_reducible apply Kp.drewN) | (with_reducible refine Kp.setCell ?_ (by first | (dsimp only; omega) | (simp; omega) | (simp; done) | (simp [size_ext_eq]; omega)) _))))⟩, ?_⟩
  refine wpOrd_do rfl ?_
  go_wp2_with fail
  rw [midQ_normal]
  refine ⟨⟨_, ext_of (show Kp _ _ from (by repeat (first | (with_reducible exact Kp.refl _) | (with_reducible assumption) | (with_reducible apply Kp.ext) | (with_reducible apply Kp.alloc) | (with_reducible apply Kp.drew) | (with_reducible apply Kp.drewN) | (with_reducible refine Kp.setCell ?_ (by first | (dsimp only; omega) | (simp; omega) | (simp; done) | (simp [size_ext_eq]; omega)) _))))⟩, ?_⟩
  refine wpOrd_do rfl ?_
  go_wp2_with (go_at_call 8; (with_reducible refine (hAl.out _ (by repeat (first | (with_reducible exact Kp.refl _) | (with_reducible assumption) | (with_reducible apply Kp.ext) | (with_reducible apply Kp.alloc) | (with_reducible apply Kp.drew) | (with_reducible apply Kp.drewN) | (with_reducible refine Kp.setCell ?_ (by first | (dsimp only; omega) | (simp; omega) | (simp; done) | (simp [size_ext_eq]; omega)) _)))).mono ?_); rintro e v20 ⟨x20, rfl, hx20, u20, rfl⟩)
  have q20 : eqF x20 0 = true := by rw [half_eqF hx20]; simp
  rw [midQ_normal]
  refine ⟨⟨_, ext_of (show Kp _ _ from (by repeat (first | (with_reducible exact Kp.refl _) | (with_reducible assumption) | (with_reducible apply Kp.ext) | (with_reducible apply Kp.alloc) | (with_reducible apply Kp.drew) | (with_reducible apply Kp.drewN) | (with_reducible refine Kp.setCell ?_ (by first | (dsimp only; omega) | (simp; omega) | (simp; done) | (simp [size_ext_eq]; omega)) _))))⟩, ?_⟩
  refine wpOrd_do rfl ?_
  go_wp2_with fail
  rw [midQ_normal]
  refine ⟨⟨_, ext_of (show Kp _ _ from (by repeat (first | (with_reducible exact Kp.refl _) | (with_reducible assumption) | (with_reducible apply Kp.ext) | (with_reducible apply Kp.alloc) | (with_reducible apply Kp.drew) | (with_reducible apply Kp.drewN) | (with_reducible refine Kp.setCell ?_ (by first | (dsimp only; omega) | (simp; omega) | (simp; done) | (simp [size_ext_eq]; omega)) _))))⟩, ?_⟩
  refine wpOrd_do rfl ?_
  go_wp2_with fail
  rw [midQ_normal]
  refine ⟨⟨_, ext_of (show Kp _ _ from (by repeat (first | (with_reducible exact Kp.refl _) | (with_reducible assumption) | (with_reducible apply Kp.ext) | (with_reducible apply Kp.alloc) | (with_reducible apply Kp.drew) | (with_reducible apply Kp.drewN) | (with_reducible refine Kp.setCell ?_ (by first | (dsimp only; omega) | (simp; omega) | (simp; done) | (simp [size_ext_eq]; omega)) _))))⟩, ?_⟩
  refine wpOrd_do rfl ?_
  go_wp2_with fail
  rw [midQ_normal]
  refine ⟨⟨_, ext_of (show Kp _ _ from (by repeat (first | (with_reducible exact Kp.refl _) | (with_reducible assumption) | (with_reducible apply Kp.ext) | (with_reducible apply Kp.alloc) | (with_reducible apply Kp.drew) | (with_reducible apply Kp.drewN) | (with_reducible refine Kp.setCell ?_ (by first | (dsimp only; omega) | (simp; omega) | (simp; done) | (simp [size_ext_eq]; omega)) _))))⟩, ?_⟩
  refine wpOrd_do rfl ?_
  go_wp2_with fail
  rw [midQ_normal]
  refine ⟨⟨_, ext_of (show Kp _ _ from (by repeat (first | (with_reducible exact Kp.refl _) | (with_reducible assumption) | (with_reducible apply Kp.ext) | (with_reducible apply Kp.alloc) | (with_reducible apply Kp.drew) | (with_reducible apply Kp.drewN) | (with_reducible refine Kp.setCell ?_ (by first | (dsimp only; omega) | (simp; omega) | (simp; done) | (simp [size_ext_eq]; omega)) _))))⟩, ?_⟩
  refine wpOrd_do rfl ?_
  go_wp2_with (go_at_call 8; (with_reducible refine (hAp.out _ (by repeat (first | (with_reducible exact Kp.refl _) | (with_reducible assumption) | (with_reducible apply Kp.ext) | (with_reducible apply Kp.alloc) | (with_reducible apply Kp.drew) | (with_reducible apply Kp.drewN) | (with_reducible refine Kp.setCell ?_ (by first | (dsimp only; omega) | (simp; omega) | (simp; done) | (simp [size_ext_eq]; omega)) _)))).mono ?_); rintro e v25 ⟨x25, rfl, hx25, u25, rfl⟩)
  have q25 : eqF x25 0 = true := by rw [half_eqF hx25]; simp
  rw [midQ_normal]
  refine ⟨⟨_, ext_of (show Kp _ _ from (by repeat (first | (with_reducible exact Kp.refl _) | (with_reducible assumption) | (with_reducible apply Kp.ext) | (with_reducible apply Kp.alloc) | (with_reducible apply Kp.drew) | (with_reducible apply Kp.drewN) | (with_reducible refine Kp.setCell ?_ (by first | (dsimp only; omega) | (simp; omega) | (simp; done) | (simp [size_ext_eq]; omega)) _))))⟩, ?_⟩
  refine wpOrd_do rfl ?_
  go_wp2_with fail
  rw [midQ_normal]
  refine ⟨⟨_, ext_of (show Kp _ _ from (by repeat (first | (with_reducible exact Kp.refl _) | (with_reducible assumption) | (with_reducible apply Kp.ext) | (with_reducible apply Kp.alloc) | (with_reducible apply Kp.drew) | (with_reducible apply Kp.drewN) | (with_reducible refine Kp.setCell ?_ (by first | (dsimp only; omega) | (simp; omega) | (simp; done) | (simp [size_ext_eq]; omega)) _))))⟩, ?_⟩
  refine wpOrd_do rfl ?_
  go_wp2_with fail
  rw [midQ_normal]
  refine ⟨⟨_, ext_of (show Kp _ _ from (by repeat (first | (with_reducible exact Kp.refl _) | (with_reducible assumption) | (with_reducible apply Kp.ext) | (with_reducible apply Kp.alloc) | (with_reducible apply Kp.drew) | (with_reducible apply Kp.drewN) | (with_reducible refine Kp.setCell ?_ (by first | (dsimp only; omega) | (simp; omega) | (simp; done) | (simp [size_ext_eq]; omega)) _))))⟩, ?_⟩
  refine wpOrd_do rfl ?_
  go_wp2_with fail
  rw [midQ_normal]
  refine ⟨⟨_, ext_of (show Kp _ _ from (by repeat (first | (with_reducible exact Kp.refl _) | (with_reducible assumption) | (with_reducible apply Kp.ext) | (with_reducible apply Kp.alloc) | (with_reducible apply Kp.drew) | (with_reducible apply Kp.drewN) | (with_reducible refine Kp.setCell ?_ (by first | (dsimp only; omega) | (simp; omega) | (simp; done) | (simp [size_ext_eq]; omega)) _))))⟩, ?_⟩
  simp only [wpOrd, List.drop_succ_cons, List.drop_zero]
  refine wpQuiet_nil ?_
  rintro _ ⟨u9, rfl⟩
  go_wp2_with fail
  go_ret
  exact Ret.mk rfl (by repeat (first | (with_reducible exact Kp.refl _) | (with_reducible assumption) | (with_reducible apply Kp.ext) | (with_reducible apply Kp.alloc) | (with_reducible apply Kp.drew) | (with_reducible apply Kp.drewN) | (with_reducible refine Kp.setCell ?_ (by first | (dsimp only; omega) | (simp; omega) | (simp; done) | (simp [size_ext_eq]; omega)) _)))
end Go.Proofs.YtohidpmkoehmcaaGreatDoor
