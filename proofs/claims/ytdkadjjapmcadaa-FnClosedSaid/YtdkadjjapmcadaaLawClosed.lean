/-
  The walk of laws.FnClosed.
-/
import Derived.Test.YtdkadjjapmcadaaSq
import Derived.Test.YtdkadjjapmcadaaWp
namespace Go.Proofs.Ytdkadjjapmcadaa
open PubFl Go.RowKit

attribute [local go_sem] cell_ext frozen_ext ext_setCell cell_store size_ext_eq lt_p0 lt_p1 lt_p2 lt_p3 lt_p4 lt_p5 lt_p6 lt_p7 lt_p8 lt_p9 lt_p10 lt_p11 lt_p12 lt_p13 lt_p14 lt_p15 lt_p16 lt_p17 lt_p18 lt_p19 lt_p20 lt_p21 lt_p22 lt_p23 lt_p24 lt_p25 lt_p26 lt_p27 lt_p28 lt_p29 lt_p30 lt_p31 lt_p32 lt_q1 lt_q2 lt_q3 lt_q4 lt_q5 lt_q6 lt_q7 lt_q8 lt_q9 lt_q10 lt_q11 lt_q12 lt_q13 lt_q14 lt_q15 lt_q16 lt_q17 lt_q18 lt_q19 lt_q20 lt_q21 lt_q22 lt_q23 lt_q24 lt_q25 lt_q26 lt_q27 lt_q28 lt_q29 lt_q30 lt_q31 lt_q32 run_fop run_store_float
attribute [local go_sem high] cmp_eql cmp_neq cmp_lss cmp_leq cmp_gtr cmp_geq

set_option maxRecDepth 20000 in
set_option maxHeartbeats 1000000 in
theorem closed_walk (a : Option Addr) (cap : Nat) (ps : List (Nat × Nat)) (hmax : ps.length ≤ maxLen) (w : World) (hs : PtsIn w a ps) (hbits : Bits ps) :
    Calls Try.prog 4 #[.slice a ps.length cap] w (Ret w (.bool true)) := by
  go_enter Try.func4, Try.ntmps4
  by_cases hbig : 2147483647 < ps.length
  · have h1 : ((2147483647 : Int) < (ps.length : Int)) = True := eq_true (by omega)
    go_wp2_with fail
    go_ret
    exact Ret.mk rfl (by repeat (first | (with_reducible exact Kp.refl _) | (with_reducible assumption) | (with_reducible apply Kp.ext) | (with_reducible apply Kp.alloc) | (with_reducible apply Kp.drew) | (with_reducible apply Kp.drewN) | (with_reducible refine Kp.setCell ?_ (by first | (dsimp only; omega) | (simp; omega) | (simp; done) | (simp [size_ext_eq]; omega)) _)))
  have h1 : ((2147483647 : Int) < (ps.length : Int)) = False := eq_false (by omega)
  have hn : ps.length ≤ 2147483647 := by omega
  cases hA : arePtsB ps 100
  · have hc := arePoints_c a cap ps 100 hn w hs hbits
    rw [hA] at hc
    have Hc := Lib.hid hc
    clear hc hA
    go_wp2_with (first | (go_at_call 18; (first | (with_reducible refine (Ret.at_ext (Hc.out)).mono ?_) | refine (Hc.out).mono ?_); rintro e w' ⟨rfl, u, rfl⟩) | (go_at_call 16; refine (square_c _).mono ?_; rintro e w1 ⟨v, u, rfl, rfl, hp⟩; obtain ⟨g, cap', rfl, hin⟩ := sq5_in hp) | (go_at_call 14; (first | (with_reducible refine (Ret.at_ext (squareClosed _ _ _ hin)).mono ?_) | refine (squareClosed _ _ _ hin).mono ?_); rintro e w' ⟨rfl, u, rfl⟩))
    go_ret
    exact Ret.mk rfl (by repeat (first | (with_reducible exact Kp.refl _) | (with_reducible assumption) | (with_reducible apply Kp.ext) | (with_reducible apply Kp.alloc) | (with_reducible apply Kp.drew) | (with_reducible apply Kp.drewN) | (with_reducible refine Kp.setCell ?_ (by first | (dsimp only; omega) | (simp; omega) | (simp; done) | (simp [size_ext_eq]; omega)) _)))
  · have hc := arePoints_c a cap ps 100 hn w hs hbits
    rw [hA] at hc
    have Hc := Lib.hid hc
    clear hc hA
    have hcl := Lib.hid (fun w' => closed_c a cap ps hn w')
    by_cases h4 : 4 ≤ ps.length
    · obtain ⟨b, off, rfl, hb, hpt⟩ := hs.cells (by omega)
      obtain ⟨l, hl⟩ : ∃ l : Nat, ps.length = l + 1 := ⟨ps.length - 1, by omega⟩
      obtain ⟨a0, a1⟩ := hpt 0 (by omega)
      obtain ⟨b0, b1⟩ := hpt l (by omega)
      have hr : closedB ps = (eqF (ps[0]'(by omega)).1 (ps[l]'(by omega)).1 && eqF (ps[0]'(by omega)).2 (ps[l]'(by omega)).2) := by
        unfold closedB meetsB
        rw [decide_eq_true h4, getD_in _ _ (by omega), getD_in _ _ (by omega)]
        simp only [hl, Nat.add_sub_cancel, Bool.true_and]
      obtain ⟨⟨x0, y0⟩, hq0⟩ : ∃ q, ps[0]'(by omega) = q := ⟨_, rfl⟩
      obtain ⟨⟨x1, y1⟩, hq1⟩ : ∃ q, ps[l]'(by omega) = q := ⟨_, rfl⟩
      rw [hq0] at a0 a1 hr
      rw [hq1] at b0 b1 hr
      simp only [Nat.zero_mul, Nat.add_zero] at a0 a1
      clear hq0 hq1
      obtain ⟨c, hc⟩ : ∃ c, (eqF x0 x1 && eqF y0 y1) = c := ⟨_, rfl⟩
      have heq : ∀ w, _ := fun w => run_eql_pt x0 y0 x1 y1 w
      rw [hc] at heq hr
      rw [hr] at hcl
      have hin : ∀ w', Kp w w' → PtsIn w' (some ⟨b, off, none⟩) ps := fun w' hk => .inr ⟨b, off, rfl, Nat.lt_of_lt_of_le hb hk.size, hpt.kp hb hk⟩
      have h4' : ((4 : Int) ≤ (ps.length : Int)) = True := eq_true (by omega)
      have hsum : ((ps.length : Int) - 1) = (l : Int) := by omega
      have hw2 : IntKind.i64.wrap (l : Int) = (l : Int) := wrap_in _ (by omega) (by omega)
      have hl0 : (0 : Int) ≤ (l : Int) := by omega
      have hll : (l : Int) < (ps.length : Int) := by omega
      have hl1 : (0 : Int) < (ps.length : Int) := by omega
      have Hin := Lib.hid hin
      clear hr hc hin hpt hbits hn hl h4 hmax hs hbig
      go_wp2_with (first | (go_at_call 18; (first | (with_reducible refine (Ret.at_ext (Hc.out)).mono ?_) | refine (Hc.out).mono ?_); rintro e w' ⟨rfl, u, rfl⟩))
      refine wp_region_pre 3 ?_ ?_ ?_
      kernel_rfl
      kernel_rfl
      simp only [List.take_succ_cons, List.take_zero, List.drop_succ_cons, List.drop_zero]
      go_wp2_with (first | (go_at_call 16; refine (square_c _).mono ?_; rintro e w1 ⟨v, u, rfl, hu3, hp⟩; have hk3 : Kp w w1 := (by rw [hu3]; exact Kp.ext (by repeat (first | (with_reducible exact Kp.refl _) | (with_reducible assumption) | (with_reducible apply Kp.ext) | (with_reducible apply Kp.alloc) | (with_reducible apply Kp.drew) | (with_reducible apply Kp.drewN) | (with_reducible refine Kp.setCell ?_ (by first | (dsimp only; omega) | (simp; omega) | (simp; done) | (simp [size_ext_eq]; omega)) _))) _); clear hu3; obtain ⟨g, cap', rfl, hin1⟩ := sq5_in hp) | (go_at_call 14; (first | (with_reducible refine (Ret.at_ext (squareClosed _ _ _ hin1)).mono ?_) | refine (squareClosed _ _ _ hin1).mono ?_); rintro e w' ⟨rfl, u, rfl⟩))
      have g0 := Kp.cell hk3 a0 hb
      have g1 := Kp.cell hk3 a1 hb
      have g2 := Kp.cell hk3 b0 hb
      have g3 := Kp.cell hk3 b1 hb
      have hb1 : b < w1.heap.size := Nat.lt_of_lt_of_le hb hk3.size
      rw [midQ_normal]
      repeat (go_big_quiet_step (first | (go_at_call 14; exact Ret.quiet (hcl.out _ (Hin.out _ (by repeat (first | (with_reducible exact Kp.refl _) | (with_reducible assumption) | (with_reducible apply Kp.ext) | (with_reducible apply Kp.alloc) | (with_reducible apply Kp.drew) | (with_reducible apply Kp.drewN) | (with_reducible refine Kp.setCell ?_ (by first | (dsimp only; omega) | (simp; omega) | (simp; done) | (simp [size_ext_eq]; omega)) _))))))))
      refine wpQuiet_nil ?_
      rintro _ ⟨u, rfl⟩
      go_wp2_with fail
      go_ret
      exact Ret.mk rfl (by repeat (first | (with_reducible exact Kp.refl _) | (with_reducible assumption) | (with_reducible apply Kp.ext) | (with_reducible apply Kp.alloc) | (with_reducible apply Kp.drew) | (with_reducible apply Kp.drewN) | (with_reducible refine Kp.setCell ?_ (by first | (dsimp only; omega) | (simp; omega) | (simp; done) | (simp [size_ext_eq]; omega)) _)))
    · have h1 : ((2147483647 : Int) < (ps.length : Int)) = False := eq_false (by omega)
      have h4' : ((4 : Int) ≤ (ps.length : Int)) = False := eq_false (by omega)
      have hr : closedB ps = false := by unfold closedB; rw [decide_eq_false h4]; rfl
      rw [hr] at hcl
      have hin : ∀ w', Kp w w' → PtsIn w' a ps := fun w' hk => by
        rcases hs with h | ⟨b, off, rfl, hb, hpt⟩
        · exact .inl h
        · exact .inr ⟨b, off, rfl, Nat.lt_of_lt_of_le hb hk.size, hpt.kp hb hk⟩
      have Hin := Lib.hid hin
      clear hr hin h4
      go_wp2_with (first | (go_at_call 18; (first | (with_reducible refine (Ret.at_ext (Hc.out)).mono ?_) | refine (Hc.out).mono ?_); rintro e w' ⟨rfl, u, rfl⟩))
      refine wp_region_pre 3 ?_ ?_ ?_
      kernel_rfl
      kernel_rfl
      simp only [List.take_succ_cons, List.take_zero, List.drop_succ_cons, List.drop_zero]
      go_wp2_with (first | (go_at_call 16; refine (square_c _).mono ?_; rintro e w1 ⟨v, u, rfl, hu3, hp⟩; have hk3 : Kp w w1 := (by rw [hu3]; exact Kp.ext (by repeat (first | (with_reducible exact Kp.refl _) | (with_reducible assumption) | (with_reducible apply Kp.ext) | (with_reducible apply Kp.alloc) | (with_reducible apply Kp.drew) | (with_reducible apply Kp.drewN) | (with_reducible refine Kp.setCell ?_ (by first | (dsimp only; omega) | (simp; omega) | (simp; done) | (simp [size_ext_eq]; omega)) _))) _); clear hu3; obtain ⟨g, cap', rfl, hin1⟩ := sq5_in hp) | (go_at_call 14; (first | (with_reducible refine (Ret.at_ext (squareClosed _ _ _ hin1)).mono ?_) | refine (squareClosed _ _ _ hin1).mono ?_); rintro e w' ⟨rfl, u, rfl⟩))
      rw [midQ_normal]
      repeat (go_big_quiet_step (first | (go_at_call 14; exact Ret.quiet (hcl.out _ (Hin.out _ (by repeat (first | (with_reducible exact Kp.refl _) | (with_reducible assumption) | (with_reducible apply Kp.ext) | (with_reducible apply Kp.alloc) | (with_reducible apply Kp.drew) | (with_reducible apply Kp.drewN) | (with_reducible refine Kp.setCell ?_ (by first | (dsimp only; omega) | (simp; omega) | (simp; done) | (simp [size_ext_eq]; omega)) _))))))))
      refine wpQuiet_nil ?_
      rintro _ ⟨u, rfl⟩
      go_wp2_with fail
      go_ret
      exact Ret.mk rfl (by repeat (first | (with_reducible exact Kp.refl _) | (with_reducible assumption) | (with_reducible apply Kp.ext) | (with_reducible apply Kp.alloc) | (with_reducible apply Kp.drew) | (with_reducible apply Kp.drewN) | (with_reducible refine Kp.setCell ?_ (by first | (dsimp only; omega) | (simp; omega) | (simp; done) | (simp [size_ext_eq]; omega)) _)))
end Go.Proofs.Ytdkadjjapmcadaa
