/-
  laws.FnRadial, walked: it answers true.
-/
import Derived.Test.YtglopopdmkgooaaSpRad
namespace Go.Proofs.Ytglopopdmkgooaa
open PubFl Go.RowKit PubVis

attribute [local go_sem] cell_ext frozen_ext ext_setCell cell_store size_ext_eq lt_p0 lt_p1 lt_p2 lt_p3 lt_p4 lt_p5 lt_p6 lt_p7 lt_p8 lt_p9 lt_p10 lt_p11 lt_p12 lt_p13 lt_p14 lt_p15 lt_p16 lt_p17 lt_p18 lt_p19 lt_p20 lt_p21 lt_p22 lt_p23 lt_p24 lt_p25 lt_p26 lt_p27 lt_p28 lt_p29 lt_p30 lt_p31 lt_p32 lt_q1 lt_q2 lt_q3 lt_q4 lt_q5 lt_q6 lt_q7 lt_q8 lt_q9 lt_q10 lt_q11 lt_q12 lt_q13 lt_q14 lt_q15 lt_q16 lt_q17 lt_q18 lt_q19 lt_q20 lt_q21 lt_q22 lt_q23 lt_q24 lt_q25 lt_q26 lt_q27 lt_q28 lt_q29 lt_q30 lt_q31 lt_q32 run_fop run_store_float
attribute [local go_sem high] cmp_eql cmp_neq cmp_lss cmp_leq cmp_gtr cmp_geq

theorem radOut_two {far : Nat → Nat → Bool} {ps : List (Nat × Nat)} (h : ps.length = 2) : radOut far ps = ps := by
  match ps, h with
  | [p, q], _ =>
    unfold radOut
    show (if (radAt far [p, q] 1).2 = 1 then (radAt far [p, q] 1).1 else (radAt far [p, q] 1).1 ++ [q]) = [p, q]
    cases c : far 0 1
    · have e : radAt far [p, q] 1 = ([p], 0) := by
        show (if far 0 1 = true then _ else _) = _
        rw [c]; rfl
      rw [e]; rfl
    · have e : radAt far [p, q] 1 = ([p, q], 1) := by
        show (if far 0 1 = true then _ else _) = _
        rw [c]; rfl
      rw [e]; rfl
set_option maxRecDepth 20000 in
set_option maxHeartbeats 1000000 in
theorem rad_no (a : Option Addr) (cap : Nat) (ps : List (Nat × Nat)) (hmax : ps.length ≤ maxLen) (hcap : ps.length ≤ cap) (thr : Int) (w : World) (hs : PtsIn w a ps) (hbits : Bits ps)
    (hno : 2147483647 < ps.length ∨ ps.length ≤ 2147483647 ∧ (lineB ps = false ∨ thr < 0 ∨ 1000 < thr)) :
    Calls Try.prog 6 #[.slice a ps.length cap, .int .i64 thr] w (Ret w (.bool true)) := by
  rcases hno with hbig | ⟨hn, hc⟩
  · have h1 : ((2147483647 : Int) < (ps.length : Int)) = True := eq_true (by omega)
    go_enter Try.func6, Try.ntmps6
    go_wp2_with fail
    go_ret
    exact Ret.mk rfl (by repeat (first | (with_reducible exact Kp.refl _) | (with_reducible assumption) | (with_reducible apply Kp.ext) | (with_reducible apply Kp.alloc) | (with_reducible apply Kp.drew) | (with_reducible apply Kp.drewN) | (with_reducible refine Kp.setCell ?_ (by first | (dsimp only; omega) | (simp; omega) | (simp; done) | (simp [size_ext_eq]; omega)) _)))
  · have h1 : ((2147483647 : Int) < (ps.length : Int)) = False := eq_false (by omega)
    have HL := Lib.hid (fun w' (hk : Kp w w') => isLine_c a cap ps hn hcap w' (hs.kp hk) hbits)
    cases c1 : lineB ps
    · rw [c1] at HL
      clear c1 hc
      go_enter Try.func6, Try.ntmps6
      go_wp2_with (first | (go_at_call 7; (first | (with_reducible refine (Ret.at_ext (HL.out _ (by repeat (first | (with_reducible exact Kp.refl _) | (with_reducible assumption) | (with_reducible apply Kp.ext) | (with_reducible apply Kp.alloc) | (with_reducible apply Kp.drew) | (with_reducible apply Kp.drewN) | (with_reducible refine Kp.setCell ?_ (by first | (dsimp only; omega) | (simp; omega) | (simp; done) | (simp [size_ext_eq]; omega)) _))))).mono ?_) | (with_reducible refine (HL.out _ (by repeat (first | (with_reducible exact Kp.refl _) | (with_reducible assumption) | (with_reducible apply Kp.ext) | (with_reducible apply Kp.alloc) | (with_reducible apply Kp.drew) | (with_reducible apply Kp.drewN) | (with_reducible refine Kp.setCell ?_ (by first | (dsimp only; omega) | (simp; omega) | (simp; done) | (simp [size_ext_eq]; omega)) _)))).mono ?_)); rintro e w' ⟨rfl, u, rfl⟩) | (go_at_call 8; (first | (with_reducible refine (Ret.at_ext (simple_c _)).mono ?_) | (with_reducible refine (simple_c _).mono ?_)); rintro e w' ⟨rfl, u, rfl⟩))
      go_ret
      exact Ret.mk rfl (by repeat (first | (with_reducible exact Kp.refl _) | (with_reducible assumption) | (with_reducible apply Kp.ext) | (with_reducible apply Kp.alloc) | (with_reducible apply Kp.drew) | (with_reducible apply Kp.drewN) | (with_reducible refine Kp.setCell ?_ (by first | (dsimp only; omega) | (simp; omega) | (simp; done) | (simp [size_ext_eq]; omega)) _)))
    · rw [c1] at HL hc
      simp only [Bool.true_eq_false, false_or] at hc
      clear c1
      by_cases d0 : thr < 0
      · have e0 : (thr < 0) = True := eq_true d0
        clear hc d0
        go_enter Try.func6, Try.ntmps6
        go_wp2_with (first | (go_at_call 7; (first | (with_reducible refine (Ret.at_ext (HL.out _ (by repeat (first | (with_reducible exact Kp.refl _) | (with_reducible assumption) | (with_reducible apply Kp.ext) | (with_reducible apply Kp.alloc) | (with_reducible apply Kp.drew) | (with_reducible apply Kp.drewN) | (with_reducible refine Kp.setCell ?_ (by first | (dsimp only; omega) | (simp; omega) | (simp; done) | (simp [size_ext_eq]; omega)) _))))).mono ?_) | (with_reducible refine (HL.out _ (by repeat (first | (with_reducible exact Kp.refl _) | (with_reducible assumption) | (with_reducible apply Kp.ext) | (with_reducible apply Kp.alloc) | (with_reducible apply Kp.drew) | (with_reducible apply Kp.drewN) | (with_reducible refine Kp.setCell ?_ (by first | (dsimp only; omega) | (simp; omega) | (simp; done) | (simp [size_ext_eq]; omega)) _)))).mono ?_)); rintro e w' ⟨rfl, u, rfl⟩) | (go_at_call 8; (first | (with_reducible refine (Ret.at_ext (simple_c _)).mono ?_) | (with_reducible refine (simple_c _).mono ?_)); rintro e w' ⟨rfl, u, rfl⟩))
        go_ret
        exact Ret.mk rfl (by repeat (first | (with_reducible exact Kp.refl _) | (with_reducible assumption) | (with_reducible apply Kp.ext) | (with_reducible apply Kp.alloc) | (with_reducible apply Kp.drew) | (with_reducible apply Kp.drewN) | (with_reducible refine Kp.setCell ?_ (by first | (dsimp only; omega) | (simp; omega) | (simp; done) | (simp [size_ext_eq]; omega)) _)))
      · have e0 : (thr < 0) = False := eq_false d0
        have e1 : (1000 < thr) = True := eq_true (by omega)
        clear hc d0
        go_enter Try.func6, Try.ntmps6
        go_wp2_with (first | (go_at_call 7; (first | (with_reducible refine (Ret.at_ext (HL.out _ (by repeat (first | (with_reducible exact Kp.refl _) | (with_reducible assumption) | (with_reducible apply Kp.ext) | (with_reducible apply Kp.alloc) | (with_reducible apply Kp.drew) | (with_reducible apply Kp.drewN) | (with_reducible refine Kp.setCell ?_ (by first | (dsimp only; omega) | (simp; omega) | (simp; done) | (simp [size_ext_eq]; omega)) _))))).mono ?_) | (with_reducible refine (HL.out _ (by repeat (first | (with_reducible exact Kp.refl _) | (with_reducible assumption) | (with_reducible apply Kp.ext) | (with_reducible apply Kp.alloc) | (with_reducible apply Kp.drew) | (with_reducible apply Kp.drewN) | (with_reducible refine Kp.setCell ?_ (by first | (dsimp only; omega) | (simp; omega) | (simp; done) | (simp [size_ext_eq]; omega)) _)))).mono ?_)); rintro e w' ⟨rfl, u, rfl⟩) | (go_at_call 8; (first | (with_reducible refine (Ret.at_ext (simple_c _)).mono ?_) | (with_reducible refine (simple_c _).mono ?_)); rintro e w' ⟨rfl, u, rfl⟩))
        go_ret
        exact Ret.mk rfl (by repeat (first | (with_reducible exact Kp.refl _) | (with_reducible assumption) | (with_reducible apply Kp.ext) | (with_reducible apply Kp.alloc) | (with_reducible apply Kp.drew) | (with_reducible apply Kp.drewN) | (with_reducible refine Kp.setCell ?_ (by first | (dsimp only; omega) | (simp; omega) | (simp; done) | (simp [size_ext_eq]; omega)) _)))

set_option maxRecDepth 100000 in
set_option maxHeartbeats 4000000 in
theorem rad_yes (a : Option Addr) (cap thr : Nat) (ps : List (Nat × Nat)) (hcap : ps.length ≤ cap) (w : World) (hs : PtsIn w a ps) (hbits : Bits ps) (c1 : lineB ps = true) (ht : thr ≤ 1000) :
    Calls Try.prog 6 #[.slice a ps.length cap, .int .i64 (thr : Nat)] w (Ret w (.bool true)) := by
  obtain ⟨h2, h40, X, Y, hX⟩ := lineB_i hbits c1
  have vt := fl_isV (n := (thr : Int)) (by omega)
  have h1 : ((2147483647 : Int) < (ps.length : Int)) = False := eq_false (by omega)
  have HL := Lib.hid (fun w' (hk : Kp w w') => isLine_c a cap ps (by omega) hcap w' (hs.kp hk) hbits)
  rw [c1] at HL
  obtain ⟨far, hfar⟩ : ∃ far, (fun c i => decide ((thr : Int) * (thr : Int) < dI X Y c i)) = far := ⟨_, rfl⟩
  have F1 := hX.far vt (by omega) (by omega)
  have F2 := hX.farS vt (by omega) (by omega)
  rw [hfar] at F1 F2
  have HK := Lib.hid (fun w' (hk : Kp w w') => radial_c a cap (fl thr) ps far F1 (fun h => radOut_two (by omega)) (by omega) h2 w' (hs.kp hk))
  have HS := Lib.hid (fun w' (hk : Kp w w') => specRadial_c a cap (fl thr) ps far (by omega) h2 hcap F2 (fun i j hi hj => hX.eq hi hj) w' (hs.kp hk))
  have hlen : (radOut far ps).length ≤ 1000 := by have := radOut_length (far := far) (ps := ps) rfl; omega
  have hfl : ∀ n : Int, floatOfInt .f64 n = fl n := fun _ => rfl
  have e0 : ((thr : Int) < 0) = False := eq_false (by omega)
  have e1 : ((1000 : Int) < (thr : Int)) = False := eq_false (by omega)
  clear c1 hX hs vt F1 F2 hfar
  go_enter Try.func6, Try.ntmps6
  go_wp2_with (first | (go_at_call 7; (first | (with_reducible refine (Ret.at_ext (HL.out _ (by repeat (first | (with_reducible exact Kp.refl _) | (with_reducible assumption) | (with_reducible apply Kp.ext) | (with_reducible apply Kp.alloc) | (with_reducible apply Kp.drew) | (with_reducible apply Kp.drewN) | (with_reducible refine Kp.setCell ?_ (by first | (dsimp only; omega) | (simp; omega) | (simp; done) | (simp [size_ext_eq]; omega)) _))))).mono ?_) | (with_reducible refine (HL.out _ (by repeat (first | (with_reducible exact Kp.refl _) | (with_reducible assumption) | (with_reducible apply Kp.ext) | (with_reducible apply Kp.alloc) | (with_reducible apply Kp.drew) | (with_reducible apply Kp.drewN) | (with_reducible refine Kp.setCell ?_ (by first | (dsimp only; omega) | (simp; omega) | (simp; done) | (simp [size_ext_eq]; omega)) _)))).mono ?_)); rintro e w' ⟨rfl, u, rfl⟩) | (go_at_call 8; (first | (with_reducible refine (Ret.at_ext (simple_c _)).mono ?_) | (with_reducible refine (simple_c _).mono ?_)); rintro e w' ⟨rfl, u, rfl⟩) | (go_at_call 17; (with_reducible refine (HK.out _ (by repeat (first | (with_reducible exact Kp.refl _) | (with_reducible assumption) | (with_reducible apply Kp.ext) | (with_reducible apply Kp.alloc) | (with_reducible apply Kp.drew) | (with_reducible apply Kp.drewN) | (with_reducible refine Kp.setCell ?_ (by first | (dsimp only; omega) | (simp; omega) | (simp; done) | (simp [size_ext_eq]; omega)) _)))).mono ?_); rintro e w1 h; obtain ⟨out, a1, c1, u1, rfl, rfl, hu, hin, _⟩ := h.out; have HOut := Lib.hid (And.intro hu hin); clear h hu hin))
  have hk1 : Kp w w1 := by rw [HOut.out.1]; exact (by repeat (first | (with_reducible exact Kp.refl _) | (with_reducible assumption) | (with_reducible apply Kp.ext) | (with_reducible apply Kp.alloc) | (with_reducible apply Kp.drew) | (with_reducible apply Kp.drewN) | (with_reducible refine Kp.setCell ?_ (by first | (dsimp only; omega) | (simp; omega) | (simp; done) | (simp [size_ext_eq]; omega)) _)))
  have Hk1 := Lib.hid hk1
  clear hk1
  go_wp2_with (go_at_call 18; (with_reducible refine (HS.out _ Hk1.out).mono ?_); rintro e w2 ⟨v, u2, rfl, hu2, hpn⟩; obtain ⟨a2, c2, rfl, hin2⟩ := hpn.in; have HOut2 := Lib.hid (And.intro hu2 hin2); clear hu2 hin2 hpn)
  have hk2 : Kp w1 w2 := by rw [HOut2.out.1]; exact (by repeat (first | (with_reducible exact Kp.refl _) | (with_reducible assumption) | (with_reducible apply Kp.ext) | (with_reducible apply Kp.alloc) | (with_reducible apply Kp.drew) | (with_reducible apply Kp.drewN) | (with_reducible refine Kp.setCell ?_ (by first | (dsimp only; omega) | (simp; omega) | (simp; done) | (simp [size_ext_eq]; omega)) _)))
  have HSm := Lib.hid (samePts_c a1 a2 c1 c2 (radOut far ps) (by omega) w2 (HOut.out.2.kp hk2) HOut2.out.2)
  have Hk2 := Lib.hid (Hk1.out.trans hk2)
  clear hk2
  go_wp2_with (go_at_call 16; (first | (with_reducible refine (Ret.at_ext (HSm.out)).mono ?_) | (with_reducible refine (HSm.out).mono ?_)); rintro e w' ⟨rfl, u, rfl⟩)
  go_ret
  exact Ret.mk rfl (Hk2.out.ext _)

theorem rad_walk {w : World} (a : Option Addr) (cap : Nat) (ps : List (Nat × Nat)) (thr : Int) (hmax : ps.length ≤ maxLen) (hcap : ps.length ≤ cap) (hs : PtsIn w a ps) (hbits : Bits ps) (ht : -9223372036854775808 ≤ thr ∧ thr ≤ 9223372036854775807) :
    Calls Try.prog 6 #[.slice a ps.length cap, .int .i64 thr] w (Ret w (.bool true)) := by
  by_cases c : 2147483647 < ps.length
  · exact rad_no a cap ps hmax hcap thr w hs hbits (.inl c)
  · by_cases d : lineB ps = true ∧ 0 ≤ thr ∧ thr ≤ 1000
    · obtain ⟨d1, d4, d5⟩ := d
      obtain ⟨t, rfl⟩ : ∃ t : Nat, thr = (t : Int) := ⟨thr.toNat, by omega⟩
      exact rad_yes a cap t ps hcap w hs hbits d1 (by omega)
    · refine rad_no a cap ps hmax hcap thr w hs hbits (.inr ⟨by omega, ?_⟩)
      cases c1 : lineB ps
      · exact .inl rfl
      · right
        rw [c1] at d
        simp only [true_and] at d
        omega
end Go.Proofs.Ytglopopdmkgooaa
