/-
  spec.counted, spec.IsShape, laws.zzFits1, whatever the shape.
-/
import Derived.Test.YtobdohhabgnjiaaGreatDoorCnt
set_option linter.all false
namespace Go.Proofs.YtobdohhabgnjiaaGreatDoor
open PubFl Go.RowKit

attribute [local go_sem] cell_ext frozen_ext ext_setCell cell_store size_ext_eq lt_p0 lt_p1 lt_p2 lt_p3 lt_p4 lt_p5 lt_p6 lt_p7 lt_p8 lt_p9 lt_p10 lt_p11 lt_p12 lt_p13 lt_p14 lt_p15 lt_p16 lt_p17 lt_p18 lt_p19 lt_p20 lt_p21 lt_p22 lt_p23 lt_p24 lt_p25 lt_p26 lt_p27 lt_p28 lt_p29 lt_p30 lt_p31 lt_p32 lt_q1 lt_q2 lt_q3 lt_q4 lt_q5 lt_q6 lt_q7 lt_q8 lt_q9 lt_q10 lt_q11 lt_q12 lt_q13 lt_q14 lt_q15 lt_q16 lt_q17 lt_q18 lt_q19 lt_q20 lt_q21 lt_q22 lt_q23 lt_q24 lt_q25 lt_q26 lt_q27 lt_q28 lt_q29 lt_q30 lt_q31 lt_q32 run_fop run_store_float
attribute [local go_sem high] cmp_eql cmp_neq cmp_lss cmp_leq cmp_gtr cmp_geq

theorem counted_c : ∀ (d : Nat), d ≤ 4 → ∀ (s : Sh) (lv pv : Value) (w : World), ShIn d w lv pv s → Calls Tryz.prog 29 #[.agg #[.int .i64 s.kind, lv, pv], .int .i64 d] w (CntRet w d s)
  | 0, _, s, lv, pv, w, _ => counted_zero s lv pv w
  | d + 1, hd, s, lv, pv, w, hs => by
    cases hh : shHead s
    · obtain ⟨⟨a1, c1, h1, hb1, _⟩, a2, c2, h2, hb2, _⟩ := id hs
      exact counted_head d (by omega) s lv pv w a1 a2 c1 c2 h1 h2 (Nat.le_trans hb1 (Nat.min_le_left _ _)) hb2 hh
    · exact counted_step d (by omega) s lv pv w hs hh fun s lv pv w h => counted_c d (by omega) s lv pv w h

set_option maxRecDepth 20000 in
theorem isShape_c (s : Sh) (lv pv : Value) (w : World) (hs : ShIn 4 w lv pv s) : Calls Tryz.prog 11 #[.agg #[.int .i64 s.kind, lv, pv]] w (Ret w (.bool (isShB s))) := by
  have hc : ∀ w', Kp w w' → Calls Tryz.prog 29 #[.agg #[.int .i64 s.kind, lv, pv], .int .i64 4] w' (CntRet w' 4 s) := fun w' hk => counted_c 4 (by decide) s lv pv w' (hs.kp hk)
  obtain ⟨⟨a1, n1, c1, rfl⟩, a2, n2, c2, rfl⟩ := hs.form
  have hM : cntOk 4 s = true → cntM 4 s ≤ 2825761 := fun h => cntM_le h
  cases hok : cntOk 4 s
  · have hr : isShB s = false := by unfold isShB; rw [hok]; rfl
    rw [hr]
    have Hc := Lib.hid hc
    clear hc hs hr hM
    go_enter Tryz.func11, Tryz.ntmps11
    go_wp2_with (go_at_call 29; ((with_reducible refine (Hc.out _ (by repeat (first | (with_reducible exact Kp.refl _) | (with_reducible assumption) | (with_reducible apply Kp.ext) | (with_reducible apply Kp.alloc) | (with_reducible apply Kp.drew) | (with_reducible apply Kp.drewN) | (with_reducible refine Kp.setCell ?_ (by first | (dsimp only; omega) | (simp; omega) | (simp; done) | (simp [size_ext_eq]; omega)) _)))).mono ?_); rintro e w1 ⟨p, m, rfl, hpm, u, rfl⟩); clear hpm; simp only [hok])
    go_ret
    exact Ret.mk rfl (by repeat (first | (with_reducible exact Kp.refl _) | (with_reducible assumption) | (with_reducible apply Kp.ext) | (with_reducible apply Kp.alloc) | (with_reducible apply Kp.drew) | (with_reducible apply Kp.drewN) | (with_reducible refine Kp.setCell ?_ (by first | (dsimp only; omega) | (simp; omega) | (simp; done) | (simp [size_ext_eq]; omega)) _)))
  · have hM := hM hok
    by_cases h40 : cntM 4 s ≤ 40
    · by_cases h300 : cntP 4 s ≤ 300
      · have hr : isShB s = true := by unfold isShB; rw [hok, decide_eq_true h40, decide_eq_true h300]; rfl
        rw [hr]
        have e1 : decide (cntP 4 s ≤ 300) = true := decide_eq_true h300
        have e2 : decide (cntM 4 s ≤ 40) = true := decide_eq_true h40
        have e3 : decide ((cntP 4 s : Int) ≤ 300) = true := decide_eq_true (by omega)
        have e4 : decide ((cntM 4 s : Int) ≤ 40) = true := decide_eq_true (by omega)
        have Hc := Lib.hid hc
        clear hc hs hr
        go_enter Tryz.func11, Tryz.ntmps11
        go_wp2_with (go_at_call 29; ((with_reducible refine (Hc.out _ (by repeat (first | (with_reducible exact Kp.refl _) | (with_reducible assumption) | (with_reducible apply Kp.ext) | (with_reducible apply Kp.alloc) | (with_reducible apply Kp.drew) | (with_reducible apply Kp.drewN) | (with_reducible refine Kp.setCell ?_ (by first | (dsimp only; omega) | (simp; omega) | (simp; done) | (simp [size_ext_eq]; omega)) _)))).mono ?_); rintro e w1 ⟨p, m, rfl, hpm, u, rfl⟩); obtain ⟨rfl, hq⟩ := hpm hok; have hp := hq h40; clear hq hpm; subst hp; simp only [hok])
        go_ret
        exact Ret.mk rfl (by repeat (first | (with_reducible exact Kp.refl _) | (with_reducible assumption) | (with_reducible apply Kp.ext) | (with_reducible apply Kp.alloc) | (with_reducible apply Kp.drew) | (with_reducible apply Kp.drewN) | (with_reducible refine Kp.setCell ?_ (by first | (dsimp only; omega) | (simp; omega) | (simp; done) | (simp [size_ext_eq]; omega)) _)))
      · have hr : isShB s = false := by unfold isShB; rw [decide_eq_false h300]; simp
        rw [hr]
        have e1 : decide (cntP 4 s ≤ 300) = false := decide_eq_false h300
        have e3 : decide ((cntP 4 s : Int) ≤ 300) = false := decide_eq_false (by omega)
        have Hc := Lib.hid hc
        clear hc hs hr
        go_enter Tryz.func11, Tryz.ntmps11
        go_wp2_with (go_at_call 29; ((with_reducible refine (Hc.out _ (by repeat (first | (with_reducible exact Kp.refl _) | (with_reducible assumption) | (with_reducible apply Kp.ext) | (with_reducible apply Kp.alloc) | (with_reducible apply Kp.drew) | (with_reducible apply Kp.drewN) | (with_reducible refine Kp.setCell ?_ (by first | (dsimp only; omega) | (simp; omega) | (simp; done) | (simp [size_ext_eq]; omega)) _)))).mono ?_); rintro e w1 ⟨p, m, rfl, hpm, u, rfl⟩); obtain ⟨rfl, hq⟩ := hpm hok; have hp := hq h40; clear hq hpm; subst hp; simp only [hok])
        go_ret
        exact Ret.mk rfl (by repeat (first | (with_reducible exact Kp.refl _) | (with_reducible assumption) | (with_reducible apply Kp.ext) | (with_reducible apply Kp.alloc) | (with_reducible apply Kp.drew) | (with_reducible apply Kp.drewN) | (with_reducible refine Kp.setCell ?_ (by first | (dsimp only; omega) | (simp; omega) | (simp; done) | (simp [size_ext_eq]; omega)) _)))
    · have hr : isShB s = false := by unfold isShB; rw [decide_eq_false h40]; simp
      rw [hr]
      have e2 : ((cntM 4 s : Int) ≤ 40) = False := eq_false (by omega)
      have Hc := Lib.hid hc
      clear hc hs hr
      go_enter Tryz.func11, Tryz.ntmps11
      go_wp2_with (go_at_call 29; ((with_reducible refine (Hc.out _ (by repeat (first | (with_reducible exact Kp.refl _) | (with_reducible assumption) | (with_reducible apply Kp.ext) | (with_reducible apply Kp.alloc) | (with_reducible apply Kp.drew) | (with_reducible apply Kp.drewN) | (with_reducible refine Kp.setCell ?_ (by first | (dsimp only; omega) | (simp; omega) | (simp; done) | (simp [size_ext_eq]; omega)) _)))).mono ?_); rintro e w1 ⟨p, m, rfl, hpm, u, rfl⟩); obtain ⟨rfl, _⟩ := hpm hok; clear hpm; simp only [hok]; by_cases e1 : p ≤ 300)
      all_goals (go_ret; exact Ret.mk rfl (by repeat (first | (with_reducible exact Kp.refl _) | (with_reducible assumption) | (with_reducible apply Kp.ext) | (with_reducible apply Kp.alloc) | (with_reducible apply Kp.drew) | (with_reducible apply Kp.drewN) | (with_reducible refine Kp.setCell ?_ (by first | (dsimp only; omega) | (simp; omega) | (simp; done) | (simp [size_ext_eq]; omega)) _))))

def FitTo (ls : List (List (Nat × Nat))) (k : Nat) : Prop := ∀ (i : Nat) (h : i < ls.length), i < k → (ls[i]'h).length ≤ 2147483647
theorem FitTo.succ {ls : List (List (Nat × Nat))} {k : Nat} (hk : k < ls.length) (h : FitTo ls k) (h2 : (ls[k]'hk).length ≤ 2147483647) : FitTo ls (k + 1) := fun i hi hik => by
  by_cases c : i = k
  · subst c; exact h2
  · exact h i hi (by omega)
end Go.Proofs.YtobdohhabgnjiaaGreatDoor
