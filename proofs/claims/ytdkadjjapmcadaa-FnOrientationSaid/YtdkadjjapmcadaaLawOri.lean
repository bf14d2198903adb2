/-
  The walk of laws.FnOrientation.
-/
import Derived.Test.YtdkadjjapmcadaaOri
import Derived.Test.YtdkadjjapmcadaaLawBox
import Derived.Deep.Slices
namespace Go.Proofs.Ytdkadjjapmcadaa
open PubFl Go.RowKit

attribute [local go_sem] cell_ext frozen_ext ext_setCell cell_store size_ext_eq lt_p0 lt_p1 lt_p2 lt_p3 lt_p4 lt_p5 lt_p6 lt_p7 lt_p8 lt_p9 lt_p10 lt_p11 lt_p12 lt_p13 lt_p14 lt_p15 lt_p16 lt_p17 lt_p18 lt_p19 lt_p20 lt_p21 lt_p22 lt_p23 lt_p24 lt_p25 lt_p26 lt_p27 lt_p28 lt_p29 lt_p30 lt_p31 lt_p32 lt_q1 lt_q2 lt_q3 lt_q4 lt_q5 lt_q6 lt_q7 lt_q8 lt_q9 lt_q10 lt_q11 lt_q12 lt_q13 lt_q14 lt_q15 lt_q16 lt_q17 lt_q18 lt_q19 lt_q20 lt_q21 lt_q22 lt_q23 lt_q24 lt_q25 lt_q26 lt_q27 lt_q28 lt_q29 lt_q30 lt_q31 lt_q32 run_fop run_store_float
attribute [local go_sem high] cmp_eql cmp_neq cmp_lss cmp_leq cmp_gtr cmp_geq

theorem ring_ints (ps : List (Nat × Nat)) (hbits : Bits ps) (h : ringB ps = true) : ps.length ≤ 100 ∧ 4 ≤ ps.length ∧ ∃ x y : Nat → Int, IntPts ps x y ∧ x (ps.length - 1) = x 0 ∧ y (ps.length - 1) = y 0 := by
  unfold ringB arePtsB at h
  simp only [Bool.and_eq_true, decide_eq_true_eq, List.all_eq_true] at h
  obtain ⟨⟨h4, hall, hle⟩, hm⟩ := h
  have hp : ∀ i, i < ps.length → ∃ q : Int × Int, IsV (ps.getD i (0, 0)).1 q.1 ∧ IsV (ps.getD i (0, 0)).2 q.2 ∧ (-1000 ≤ q.1 ∧ q.1 ≤ 1000) ∧ (-1000 ≤ q.2 ∧ q.2 ≤ 1000) := fun i hi => by
    rw [getD_in _ _ hi]
    obtain ⟨g0, g1⟩ := hbits i hi
    obtain ⟨a, b, h1, h2, h3, h4⟩ := pointB_int g0 g1 (hall _ (List.getElem_mem hi))
    exact ⟨(a, b), h1, h2, h3, h4⟩
  obtain ⟨q, hq⟩ := Go.Deep.choose_lt hp
  refine ⟨by omega, h4, fun i => (q i).1, fun i => (q i).2, fun i hi => by have := hq i hi; rwa [getD_in _ _ hi] at this, ?_, ?_⟩
  all_goals
    unfold meetsB at hm
    simp only [Bool.and_eq_true] at hm
    obtain ⟨a1, a2, _⟩ := hq 0 (by omega)
    obtain ⟨b1, b2, _⟩ := hq (ps.length - 1) (by omega)
    rw [eqF_int a1 b1, eqF_int a2 b2] at hm
    simp only [decide_eq_true_eq] at hm
    dsimp only
    omega
theorem IntPts.rev {ps : List (Nat × Nat)} {x y : Nat → Int} (h : IntPts ps x y) : IntPts ps.reverse (fun i => x (ps.length - 1 - i)) (fun i => y (ps.length - 1 - i)) := by
  intro i hi
  rw [List.getElem_reverse]
  exact h _ _

theorem fl_four : fl 4 = 4616189618054758400 := by kernel_rfl
theorem sq5_ints : ∃ x y : Nat → Int, IntPts sq5 x y ∧ sumTo (offT x y) 3 = 32 := by
  have z : IsV 0 ((0 : Int) : Rat) := zero_isV
  have f : IsV 4616189618054758400 ((4 : Int) : Rat) := by rw [← fl_four]; exact fl_isV (by decide)
  refine ⟨fun i => ([0, 4, 4, 0, 0] : List Int).getD i 0, fun i => ([0, 0, 4, 4, 0] : List Int).getD i 0, ?_, by decide⟩
  intro i hi
  have hi5 : i < 5 := hi
  rcases (show i = 0 ∨ i = 1 ∨ i = 2 ∨ i = 3 ∨ i = 4 by omega) with rfl | rfl | rfl | rfl | rfl
  · exact ⟨z, z, by decide, by decide⟩
  · exact ⟨f, z, by decide, by decide⟩
  · exact ⟨f, f, by decide, by decide⟩
  · exact ⟨z, f, by decide, by decide⟩
  · exact ⟨z, z, by decide, by decide⟩
theorem squareTurn (g cap : Nat) (w : World) (h : PtsIn w (some ⟨g, 0, none⟩) sq5) : Calls Try.prog 25 #[.slice (some ⟨g, 0, none⟩) 5 cap] w (Ret w (.int .i64 1)) := by
  obtain ⟨x, y, hi, hv⟩ := sq5_ints
  have := orientation_c (some ⟨g, 0, none⟩) cap sq5 (by decide) (by decide) w h x y hi
  rw [show sq5.length - 2 = 3 from rfl, hv] at this
  exact this

set_option maxRecDepth 20000 in
set_option maxHeartbeats 1000000 in
theorem orientation_walk (a : Option Addr) (cap : Nat) (ps : List (Nat × Nat)) (hmax : ps.length ≤ maxLen) (w : World) (hs : PtsIn w a ps) (hbits : Bits ps) :
    Calls Try.prog 7 #[.slice a ps.length cap] w (Ret w (.bool true)) := by
  go_enter Try.func7, Try.ntmps7
  by_cases hbig : 2147483647 < ps.length
  · have h1 : ((2147483647 : Int) < (ps.length : Int)) = True := eq_true (by omega)
    go_wp2_with fail
    go_ret
    exact Ret.mk rfl (by repeat (first | (with_reducible exact Kp.refl _) | (with_reducible assumption) | (with_reducible apply Kp.ext) | (with_reducible apply Kp.alloc) | (with_reducible apply Kp.drew) | (with_reducible apply Kp.drewN) | (with_reducible refine Kp.setCell ?_ (by first | (dsimp only; omega) | (simp; omega) | (simp; done) | (simp [size_ext_eq]; omega)) _)))
  have h1 : ((2147483647 : Int) < (ps.length : Int)) = False := eq_false (by omega)
  have hn : ps.length ≤ 2147483647 := by omega
  cases hR : ringB ps
  · have hc := isRing_c a cap ps hn w hs hbits
    rw [hR] at hc
    have Hc := Lib.hid hc
    clear hc hR
    go_wp2_with (first | (go_at_call 24; (first | (with_reducible refine (Ret.at_ext (Hc.out)).mono ?_) | refine (Hc.out).mono ?_); rintro e w' ⟨rfl, u, rfl⟩) | (go_at_call 16; refine (square_c _).mono ?_; rintro e w1 ⟨v, u, rfl, rfl, hp⟩; obtain ⟨g, cap', rfl, hin1⟩ := sq5_in hp) | (go_at_call 25; (first | (with_reducible refine (Ret.at_ext (squareTurn _ _ _ hin1)).mono ?_) | refine (squareTurn _ _ _ hin1).mono ?_); rintro e w' ⟨rfl, u, rfl⟩))
    go_ret
    exact Ret.mk rfl (by repeat (first | (with_reducible exact Kp.refl _) | (with_reducible assumption) | (with_reducible apply Kp.ext) | (with_reducible apply Kp.alloc) | (with_reducible apply Kp.drew) | (with_reducible apply Kp.drewN) | (with_reducible refine Kp.setCell ?_ (by first | (dsimp only; omega) | (simp; omega) | (simp; done) | (simp [size_ext_eq]; omega)) _)))
  · obtain ⟨hle, h4, x, y, hi, hx, hy⟩ := ring_ints ps hbits hR
    have hc := isRing_c a cap ps hn w hs hbits
    rw [hR] at hc
    have Hc := Lib.hid hc
    have hD : sumTo (offT x y) (ps.length - 2) = sumTo (crossT x y) (ps.length - 1) := by
      have := off_closed x y (ps.length - 2) (by rw [show ps.length - 2 + 1 = ps.length - 1 by omega]; exact hx) (by rw [show ps.length - 2 + 1 = ps.length - 1 by omega]; exact hy)
      rwa [show ps.length - 2 + 1 = ps.length - 1 by omega] at this
    have hDr : sumTo (offT (fun i => x (ps.length - 1 - i)) (fun i => y (ps.length - 1 - i))) (ps.length - 2) = - sumTo (crossT x y) (ps.length - 1) := by
      have := off_closed (fun i => x (ps.length - 1 - i)) (fun i => y (ps.length - 1 - i)) (ps.length - 2) (by simp only [show ps.length - 1 - (ps.length - 2 + 1) = 0 by omega, Nat.sub_zero]; exact hx.symm) (by simp only [show ps.length - 1 - (ps.length - 2 + 1) = 0 by omega, Nat.sub_zero]; exact hy.symm)
      rw [show ps.length - 2 + 1 = ps.length - 1 by omega, cross_rev] at this
      exact this
    have hin : ∀ w', Kp w w' → PtsIn w' a ps := fun w' hk => by
      rcases hs with h | ⟨b, off, rfl, hb, hpt⟩
      · exact .inl h
      · exact .inr ⟨b, off, rfl, Nat.lt_of_lt_of_le hb hk.size, hpt.kp hb hk⟩
    have hO : ∀ w', Kp w w' → Calls Try.prog 25 #[.slice a ps.length cap] w' (Ret w' (.int .i64 (sgn (sumTo (crossT x y) (ps.length - 1))))) := fun w' hk => by
      have := orientation_c a cap ps (by omega) (by omega) w' (hin w' hk) x y hi
      rwa [hD] at this
    have hT : ∀ w', Kp w w' → Calls Try.prog 26 #[.slice a ps.length cap] w' (Ret w' (.int .i64 (sgn (sumTo (crossT x y) (ps.length - 1))))) := fun w' hk => turn_c a cap ps (by omega) (by omega) w' (hin w' hk) x y hi
    have hOr : ∀ g cap' w', PtsIn w' (some ⟨g, 0, none⟩) ps.reverse → Calls Try.prog 25 #[.slice (some ⟨g, 0, none⟩) ps.length cap'] w' (Ret w' (.int .i64 (- sgn (sumTo (crossT x y) (ps.length - 1))))) := fun g cap' w' h => by
      have := orientation_c (some ⟨g, 0, none⟩) cap' ps.reverse (by simp; omega) (by simp; omega) w' h _ _ hi.rev
      rw [List.length_reverse, hDr] at this
      have e : ∀ n, sgn (-n) = - sgn n := fun n => by unfold sgn; split <;> split <;> (try split) <;> (try split) <;> omega
      rwa [e] at this
    have hRv : ∀ w', Kp w w' → Calls Try.prog 15 #[.slice a ps.length cap] w' (fun e w2 => ∃ g cap', e = .returned (.slice (some ⟨g, 0, none⟩) ps.length cap') ∧ PtsIn w2 (some ⟨g, 0, none⟩) ps.reverse ∧ Kp w' w2) := fun w' hk => (reversed_c a cap ps hn w' (hin w' hk)).mono fun e w2 ⟨v, u, he, hw, hp⟩ => by
      obtain ⟨g, cap', hv, _, hg2, _, _, hpt⟩ := hp.form (by simp; omega)
      rw [List.length_reverse] at hv
      exact ⟨g, cap', by rw [he, hv], .inr ⟨g, 0, rfl, hg2, hpt⟩, by rw [hw]; exact (Kp.refl _).ext _⟩
    have hsg : ∀ n, sgn n = 1 ∨ sgn n = -1 ∨ sgn n = 0 := fun n => by unfold sgn; split <;> (try split) <;> simp
    generalize sumTo (crossT x y) (ps.length - 1) = n at *
    have h3 := hsg n
    generalize sgn n = T at *
    have HO := Lib.hid hO
    have HT := Lib.hid hT
    have HOr := Lib.hid hOr
    have HRv := Lib.hid hRv
    clear hO hT hOr hRv hc hR hD hDr hin hsg hi hx hy hle h4 hbig hbits hs
    rcases h3 with rfl | rfl | rfl
    all_goals
      go_wp2_with (first | (go_at_call 24; (first | (with_reducible refine (Ret.at_ext (Hc.out)).mono ?_) | (with_reducible refine (Hc.out).mono ?_)); rintro e w' ⟨rfl, u, rfl⟩) | (go_at_call 16; (with_reducible refine (square_c _).mono ?_); rintro e w1 ⟨v, u, rfl, hu1, hp⟩; have hk1 : Kp w w1 := (by rw [hu1]; exact Kp.ext (by repeat (first | (with_reducible exact Kp.refl _) | (with_reducible assumption) | (with_reducible apply Kp.ext) | (with_reducible apply Kp.alloc) | (with_reducible apply Kp.drew) | (with_reducible apply Kp.drewN) | (with_reducible refine Kp.setCell ?_ (by first | (dsimp only; omega) | (simp; omega) | (simp; done) | (simp [size_ext_eq]; omega)) _))) _); clear hu1; obtain ⟨g, cap', rfl, hin1⟩ := sq5_in hp) | (go_at_call 25; (first | (with_reducible refine (Ret.at_ext (HO.out _ (by repeat (first | (with_reducible exact Kp.refl _) | (with_reducible assumption) | (with_reducible apply Kp.ext) | (with_reducible apply Kp.alloc) | (with_reducible apply Kp.drew) | (with_reducible apply Kp.drewN) | (with_reducible refine Kp.setCell ?_ (by first | (dsimp only; omega) | (simp; omega) | (simp; done) | (simp [size_ext_eq]; omega)) _))))).mono ?_) | (with_reducible refine (HO.out _ (by repeat (first | (with_reducible exact Kp.refl _) | (with_reducible assumption) | (with_reducible apply Kp.ext) | (with_reducible apply Kp.alloc) | (with_reducible apply Kp.drew) | (with_reducible apply Kp.drewN) | (with_reducible refine Kp.setCell ?_ (by first | (dsimp only; omega) | (simp; omega) | (simp; done) | (simp [size_ext_eq]; omega)) _)))).mono ?_)); rintro e w' ⟨rfl, u, rfl⟩) | (go_at_call 25; (first | (with_reducible refine (Ret.at_ext (squareTurn _ _ _ hin1)).mono ?_) | (with_reducible refine (squareTurn _ _ _ hin1).mono ?_)); rintro e w' ⟨rfl, u, rfl⟩) | (go_at_call 25; (first | (with_reducible refine (Ret.at_ext (HOr.out _ _ _ hin2)).mono ?_) | (with_reducible refine (HOr.out _ _ _ hin2).mono ?_)); rintro e w' ⟨rfl, u, rfl⟩) | (go_at_call 26; (first | (with_reducible refine (Ret.at_ext (HT.out _ (by repeat (first | (with_reducible exact Kp.refl _) | (with_reducible assumption) | (with_reducible apply Kp.ext) | (with_reducible apply Kp.alloc) | (with_reducible apply Kp.drew) | (with_reducible apply Kp.drewN) | (with_reducible refine Kp.setCell ?_ (by first | (dsimp only; omega) | (simp; omega) | (simp; done) | (simp [size_ext_eq]; omega)) _))))).mono ?_) | (with_reducible refine (HT.out _ (by repeat (first | (with_reducible exact Kp.refl _) | (with_reducible assumption) | (with_reducible apply Kp.ext) | (with_reducible apply Kp.alloc) | (with_reducible apply Kp.drew) | (with_reducible apply Kp.drewN) | (with_reducible refine Kp.setCell ?_ (by first | (dsimp only; omega) | (simp; omega) | (simp; done) | (simp [size_ext_eq]; omega)) _)))).mono ?_)); rintro e w' ⟨rfl, u, rfl⟩) | (go_at_call 15; (with_reducible refine (HRv.out _ (by repeat (first | (with_reducible exact Kp.refl _) | (with_reducible assumption) | (with_reducible apply Kp.ext) | (with_reducible apply Kp.alloc) | (with_reducible apply Kp.drew) | (with_reducible apply Kp.drewN) | (with_reducible refine Kp.setCell ?_ (by first | (dsimp only; omega) | (simp; omega) | (simp; done) | (simp [size_ext_eq]; omega)) _)))).mono ?_); rintro e w2 ⟨g2, cap2, rfl, hin2, hk2⟩; have hk3 : Kp w w2 := Kp.trans (by repeat (first | (with_reducible exact Kp.refl _) | (with_reducible assumption) | (with_reducible apply Kp.ext) | (with_reducible apply Kp.alloc) | (with_reducible apply Kp.drew) | (with_reducible apply Kp.drewN) | (with_reducible refine Kp.setCell ?_ (by first | (dsimp only; omega) | (simp; omega) | (simp; done) | (simp [size_ext_eq]; omega)) _))) hk2))
    all_goals (go_ret; exact Ret.mk rfl (by repeat (first | (with_reducible exact Kp.refl _) | (with_reducible assumption) | (with_reducible apply Kp.ext) | (with_reducible apply Kp.alloc) | (with_reducible apply Kp.drew) | (with_reducible apply Kp.drewN) | (with_reducible refine Kp.setCell ?_ (by first | (dsimp only; omega) | (simp; omega) | (simp; done) | (simp [size_ext_eq]; omega)) _))))
end Go.Proofs.Ytdkadjjapmcadaa
