/-
  spec.IsRing.
-/
import Derived.Test.YtnmdgdmnmoghhaaGreatDoorSq
namespace Go.Proofs.YtnmdgdmnmoghhaaGreatDoor
open PubFl Go.RowKit

attribute [local go_sem] cell_ext frozen_ext ext_setCell cell_store size_ext_eq lt_p0 lt_p1 lt_p2 lt_p3 lt_p4 lt_p5 lt_p6 lt_p7 lt_p8 lt_p9 lt_p10 lt_p11 lt_p12 lt_p13 lt_p14 lt_p15 lt_p16 lt_p17 lt_p18 lt_p19 lt_p20 lt_p21 lt_p22 lt_p23 lt_p24 lt_p25 lt_p26 lt_p27 lt_p28 lt_p29 lt_p30 lt_p31 lt_p32 lt_q1 lt_q2 lt_q3 lt_q4 lt_q5 lt_q6 lt_q7 lt_q8 lt_q9 lt_q10 lt_q11 lt_q12 lt_q13 lt_q14 lt_q15 lt_q16 lt_q17 lt_q18 lt_q19 lt_q20 lt_q21 lt_q22 lt_q23 lt_q24 lt_q25 lt_q26 lt_q27 lt_q28 lt_q29 lt_q30 lt_q31 lt_q32 run_fop run_store_float
attribute [local go_sem high] cmp_eql cmp_neq cmp_lss cmp_leq cmp_gtr cmp_geq

def ringB (ps : List (Nat × Nat)) : Bool := decide (4 ≤ ps.length) && arePtsB ps 100 && meetsB ps

set_option maxRecDepth 20000 in
set_option maxHeartbeats 1000000 in
theorem isRing_c (a : Option Addr) (cap : Nat) (ps : List (Nat × Nat)) (hn : ps.length ≤ 2147483647) (w : World) (hs : PtsIn w a ps) (hbits : Bits ps) :
    Calls Tryz.prog 34 #[.slice a ps.length cap] w (Ret w (.bool (ringB ps))) := by
  by_cases h4 : 4 ≤ ps.length
  · obtain ⟨b, off, rfl, hb, hpt⟩ := hs.cells (by omega)
    obtain ⟨l, hl⟩ : ∃ l : Nat, ps.length = l + 1 := ⟨ps.length - 1, by omega⟩
    obtain ⟨a0, a1⟩ := hpt 0 (by omega)
    obtain ⟨b0, b1⟩ := hpt l (by omega)
    have hm : meetsB ps = (eqF (ps[0]'(by omega)).1 (ps[l]'(by omega)).1 && eqF (ps[0]'(by omega)).2 (ps[l]'(by omega)).2) := by
      unfold meetsB
      rw [getD_in _ _ (by omega), getD_in _ _ (by omega)]
      simp only [hl, Nat.add_sub_cancel]
    have hr : ringB ps = (arePtsB ps 100 && meetsB ps) := by unfold ringB; rw [decide_eq_true h4]; rfl
    obtain ⟨⟨x0, y0⟩, hq0⟩ : ∃ q, ps[0]'(by omega) = q := ⟨_, rfl⟩
    obtain ⟨⟨x1, y1⟩, hq1⟩ : ∃ q, ps[l]'(by omega) = q := ⟨_, rfl⟩
    rw [hq0] at a0 a1 hm
    rw [hq1] at b0 b1 hm
    simp only [Nat.zero_mul, Nat.add_zero] at a0 a1
    have hap := Lib.hid (fun w' hk => arePoints_c (some ⟨b, off, none⟩) cap ps 100 hn w' (show PtsIn w' _ ps from .inr ⟨b, off, rfl, Nat.lt_of_lt_of_le hb (Kp.size hk), hpt.kp hb hk⟩) hbits)
    have h4' : ((4 : Int) ≤ (ps.length : Int)) = True := eq_true (by omega)
    have hsum : ((ps.length : Int) - 1) = (l : Int) := by omega
    have hw2 : IntKind.i64.wrap (l : Int) = (l : Int) := wrap_in _ (by omega) (by omega)
    have hl0 : (0 : Int) ≤ (l : Int) := by omega
    have hll : (l : Int) < (ps.length : Int) := by omega
    have hl1 : (0 : Int) < (ps.length : Int) := by omega
    have heq : ∀ w, _ := fun w => run_eql_pt x0 y0 x1 y1 w
    rw [← hm] at heq
    rw [hr]
    clear hq0 hq1 hpt hs hr hm hl h4 hbits hn
    generalize meetsB ps = mb at *
    generalize arePtsB ps 100 = pb at *
    cases pb
    · go_enter Tryz.func34, Tryz.ntmps34
      go_wp2_with fail
      first | (with_reducible refine wp_region_ext_lit2 ?_ ?_ ?_) | refine wp_region_ext_lit ?_ ?_ ?_
      kernel_rfl
      kernel_rfl
      repeat (go_big_quiet_step (first | (go_at_call 47; exact Ret.quiet (hap.out _ (by repeat (first | (with_reducible exact Kp.refl _) | (with_reducible assumption) | (with_reducible apply Kp.ext) | (with_reducible apply Kp.alloc) | (with_reducible apply Kp.drew) | (with_reducible apply Kp.drewN) | (with_reducible refine Kp.setCell ?_ (by first | (dsimp only; omega) | (simp; omega) | (simp; done) | (simp [size_ext_eq]; omega)) _)))))))
      refine wpQuiet_nil ?_
      rintro _ ⟨u, rfl⟩
      go_wp2_with fail
      go_ret
      exact Ret.mk rfl (by repeat (first | (with_reducible exact Kp.refl _) | (with_reducible assumption) | (with_reducible apply Kp.ext) | (with_reducible apply Kp.alloc) | (with_reducible apply Kp.drew) | (with_reducible apply Kp.drewN) | (with_reducible refine Kp.setCell ?_ (by first | (dsimp only; omega) | (simp; omega) | (simp; done) | (simp [size_ext_eq]; omega)) _)))
    · go_enter Tryz.func34, Tryz.ntmps34
      go_wp2_with fail
      first | (with_reducible refine wp_region_ext_lit2 ?_ ?_ ?_) | refine wp_region_ext_lit ?_ ?_ ?_
      kernel_rfl
      kernel_rfl
      repeat (go_big_quiet_step (first | (go_at_call 47; exact Ret.quiet (hap.out _ (by repeat (first | (with_reducible exact Kp.refl _) | (with_reducible assumption) | (with_reducible apply Kp.ext) | (with_reducible apply Kp.alloc) | (with_reducible apply Kp.drew) | (with_reducible apply Kp.drewN) | (with_reducible refine Kp.setCell ?_ (by first | (dsimp only; omega) | (simp; omega) | (simp; done) | (simp [size_ext_eq]; omega)) _)))))))
      refine wpQuiet_nil ?_
      rintro _ ⟨u, rfl⟩
      go_wp2_with fail
      go_ret
      exact Ret.mk rfl (by repeat (first | (with_reducible exact Kp.refl _) | (with_reducible assumption) | (with_reducible apply Kp.ext) | (with_reducible apply Kp.alloc) | (with_reducible apply Kp.drew) | (with_reducible apply Kp.drewN) | (with_reducible refine Kp.setCell ?_ (by first | (dsimp only; omega) | (simp; omega) | (simp; done) | (simp [size_ext_eq]; omega)) _)))
  · have hr : ringB ps = false := by unfold ringB; rw [decide_eq_false h4]; rfl
    rw [hr]
    have h4' : ((4 : Int) ≤ (ps.length : Int)) = False := eq_false (by omega)
    clear h4 hr
    go_enter Tryz.func34, Tryz.ntmps34
    go_wp2_with fail
    first | (with_reducible refine wp_region_ext_lit2 ?_ ?_ ?_) | refine wp_region_ext_lit ?_ ?_ ?_
    kernel_rfl
    kernel_rfl
    repeat (go_big_quiet_step (fail))
    refine wpQuiet_nil ?_
    rintro _ ⟨u, rfl⟩
    go_wp2_with fail
    go_ret
    exact Ret.mk rfl (by repeat (first | (with_reducible exact Kp.refl _) | (with_reducible assumption) | (with_reducible apply Kp.ext) | (with_reducible apply Kp.alloc) | (with_reducible apply Kp.drew) | (with_reducible apply Kp.drewN) | (with_reducible refine Kp.setCell ?_ (by first | (dsimp only; omega) | (simp; omega) | (simp; done) | (simp [size_ext_eq]; omega)) _)))
end Go.Proofs.YtnmdgdmnmoghhaaGreatDoor
