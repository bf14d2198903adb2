/-
  spec.counted, spec.IsShape, laws.zzFits1, whatever the shape.
-/
import Derived.Test.YtnmokjgiilfdlaaGreatDoorCnt
set_option linter.all false
namespace Go.Proofs.YtnmokjgiilfdlaaGreatDoor
open PubFl Go.RowKit

attribute [local go_sem] cell_ext frozen_ext ext_setCell cell_store size_ext_eq lt_p0 lt_p1 lt_p2 lt_p3 lt_p4 lt_p5 lt_p6 lt_p7 lt_p8 lt_p9 lt_p10 lt_p11 lt_p12 lt_p13 lt_p14 lt_p15 lt_p16 lt_p17 lt_p18 lt_p19 lt_p20 lt_p21 lt_p22 lt_p23 lt_p24 lt_p25 lt_p26 lt_p27 lt_p28 lt_p29 lt_p30 lt_p31 lt_p32 lt_q1 lt_q2 lt_q3 lt_q4 lt_q5 lt_q6 lt_q7 lt_q8 lt_q9 lt_q10 lt_q11 lt_q12 lt_q13 lt_q14 lt_q15 lt_q16 lt_q17 lt_q18 lt_q19 lt_q20 lt_q21 lt_q22 lt_q23 lt_q24 lt_q25 lt_q26 lt_q27 lt_q28 lt_q29 lt_q30 lt_q31 lt_q32 run_fop run_store_float
attribute [local go_sem high] cmp_eql cmp_neq cmp_lss cmp_leq cmp_gtr cmp_geq

theorem counted_c : ∀ (d : Nat), d ≤ 4 → ∀ (s : Sh) (lv pv : Value) (w : World), ShIn d w lv pv s → Calls Tryz.prog 30 #[.agg #[.int .i64 s.kind, lv, pv], .int .i64 d] w (CntRet w d s)
  | 0, _, s, lv, pv, w, _ => counted_zero s lv pv w
  | d + 1, hd, s, lv, pv, w, hs => by
    cases hh : shHead s
    · obtain ⟨⟨a1, c1, h1, hb1, _⟩, a2, c2, h2, hb2, _⟩ := id hs
      exact counted_head d (by omega) s lv pv w a1 a2 c1 c2 h1 h2 (Nat.le_trans hb1 (Nat.min_le_left _ _)) hb2 hh
    · exact counted_step d (by omega) s lv pv w hs hh fun s lv pv w h => counted_c d (by omega) s lv pv w h

set_option maxRecDepth 20000 in
theorem isShape_c (s : Sh) (lv pv : Value) (w : World) (hs : ShIn 4 w lv pv s) : Calls Tryz.prog 15 #[.agg #[.int .i64 s.kind, lv, pv]] w (Ret w (.bool (isShB s))) := by
  have hc : ∀ w', Kp w w' → Calls Tryz.prog 30 #[.agg #[.int .i64 s.kind, lv, pv], .int .i64 4] w' (CntRet w' 4 s) := fun w' hk => counted_c 4 (by decide) s lv pv w' (hs.kp hk)
  obtain ⟨⟨a1, n1, c1, rfl⟩, a2, n2, c2, rfl⟩ := hs.form
  have hM : cntOk 4 s = true → cntM 4 s ≤ 2825761 := fun h => cntM_le h
  cases hok : cntOk 4 s
  · have hr : isShB s = false := by unfold isShB; rw [hok]; rfl
    rw [hr]
    have Hc := Lib.hid hc
    clear hc hs hr hM
    go_enter Tryz.func15, Tryz.ntmps15
    go_wp2_with (go_at_call 30; ((with_reducible refine (Hc.out _ (by repeat (first | (with_reducible exact Kp.refl _) | (with_reducible assumption) | (with_reducible apply Kp.ext) | (with_reducible apply Kp.alloc) | (with_reducible apply Kp.drew) | (with_reducible apply Kp.drewN) | (with_reducible refine Kp.setCell ?_ (by first | (dsimp only; omega) | (simp; omega) | (simp; done) | (simp [size_ext_eq]; omega)) _)))).mono ?_); rintro e w1 ⟨p, m, rfl, hpm, u, rfl⟩); clear hpm; simp only [hok])
    go_ret
    exact Ret.mk rfl (by repeat (first | (with_reducible exact Kp.refl _) | (with_reducible assumption) | (with_reducible apply Kp.ext) | (with_reducible apply Kp.alloc) | (with_reducible apply Kp.drew) | (with_reducible apply Kp.drewN) | (with_reducible refine Kp.setCell ?_ (by first | (dsimp only; omega) | (simp; omega) | (simp; done) | (simp [size_ext_eq]; omega)) _)))
  · have hM := hM hok
    by_cases h40 : cntM 4 s ≤ 40
    · by_cases h300 : cntP 4 s ≤ 300
      · have hr : isShB s = true := by unfold isShB; rw [hok, decide_eq_true h40, decide_eq_true h300]; rfl
        rw [hr]
        have e1 : decide (cntP 4 s ≤ 300) = true := decide_eq_true h300
        have e2 : decide (cntM 4 s ≤ 40) = true := decide_eq_true h40
        have e3 : decide ((cntP 4 s : Int) ≤ 300) = true := decide_eq_true (by omega)
        have e4 : decide ((cntM 4 s : Int) ≤ 40) = true := decide_eq_true (by omega)
        have Hc := Lib.hid hc
        clear hc hs hr
        go_enter Tryz.func15, Tryz.ntmps15
        go_wp2_with (go_at_call 30; ((with_reducible refine (Hc.out _ (by repeat (first | (with_reducible exact Kp.refl _) | (with_reducible assumption) | (with_reducible apply Kp.ext) | (with_reducible apply Kp.alloc) | (with_reducible apply Kp.drew) | (with_reducible apply Kp.drewN) | (with_reducible refine Kp.setCell ?_ (by first | (dsimp only; omega) | (simp; omega) | (simp; done) | (simp [size_ext_eq]; omega)) _)))).mono ?_); rintro e w1 ⟨p, m, rfl, hpm, u, rfl⟩); obtain ⟨rfl, hq⟩ := hpm hok; have hp := hq h40; clear hq hpm; subst hp; simp only [hok])
        go_ret
        exact Ret.mk rfl (by repeat (first | (with_reducible exact Kp.refl _) | (with_reducible assumption) | (with_reducible apply Kp.ext) | (with_reducible apply Kp.alloc) | (with_reducible apply Kp.drew) | (with_reducible apply Kp.drewN) | (with_reducible refine Kp.setCell ?_ (by first | (dsimp only; omega) | (simp; omega) | (simp; done) | (simp [size_ext_eq]; omega)) _)))
      · have hr : isShB s = false := by unfold isShB; rw [decide_eq_false h300]; simp
        rw [hr]
        have e1 : decide (cntP 4 s ≤ 300) = false := decide_eq_false h300
        have e3 : decide ((cntP 4 s : Int) ≤ 300) = false := decide_eq_false (by omega)
        have Hc := Lib.hid hc
        clear hc hs hr
        go_enter Tryz.func15, Tryz.ntmps15
        go_wp2_with (go_at_call 30; ((with_reducible refine (Hc.out _ (by repeat (first | (with_reducible exact Kp.refl _) | (with_reducible assumption) | (with_reducible apply Kp.ext) | (with_reducible apply Kp.alloc) | (with_reducible apply Kp.drew) | (with_reducible apply Kp.drewN) | (with_reducible refine Kp.setCell ?_ (by first | (dsimp only; omega) | (simp; omega) | (simp; done) | (simp [size_ext_eq]; omega)) _)))).mono ?_); rintro e w1 ⟨p, m, rfl, hpm, u, rfl⟩); obtain ⟨rfl, hq⟩ := hpm hok; have hp := hq h40; clear hq hpm; subst hp; simp only [hok])
        go_ret
        exact Ret.mk rfl (by repeat (first | (with_reducible exact Kp.refl _) | (with_reducible assumption) | (with_reducible apply Kp.ext) | (with_reducible apply Kp.alloc) | (with_reducible apply Kp.drew) | (with_reducible apply Kp.drewN) | (with_reducible refine Kp.setCell ?_ (by first | (dsimp only; omega) | (simp; omega) | (simp; done) | (simp [size_ext_eq]; omega)) _)))
    · have hr : isShB s = false := by unfold isShB; rw [decide_eq_false h40]; simp
      rw [hr]
      have e2 : ((cntM 4 s : Int) ≤ 40) = False := eq_false (by omega)
      have Hc := Lib.hid hc
      clear hc hs hr
      go_enter Tryz.func15, Tryz.ntmps15
      go_wp2_with (go_at_call 30; ((with_reducible refine (Hc.out _ (by repeat (first | (with_reducible exact Kp.refl _) | (with_reducible assumption) | (with_reducible apply Kp.ext) | (with_reducible apply Kp.alloc) | (with_reducible apply Kp.drew) | (with_reducible apply Kp.drewN) | (with_reducible refine Kp.setCell ?_ (by first | (dsimp only; omega) | (simp; omega) | (simp; done) | (simp [size_ext_eq]; omega)) _)))).mono ?_); rintro e w1 ⟨p, m, rfl, hpm, u, rfl⟩); obtain ⟨rfl, _⟩ := hpm hok; clear hpm; simp only [hok]; by_cases e1 : p ≤ 300)
      all_goals (go_ret; exact Ret.mk rfl (by repeat (first | (with_reducible exact Kp.refl _) | (with_reducible assumption) | (with_reducible apply Kp.ext) | (with_reducible apply Kp.alloc) | (with_reducible apply Kp.drew) | (with_reducible apply Kp.drewN) | (with_reducible refine Kp.setCell ?_ (by first | (dsimp only; omega) | (simp; omega) | (simp; done) | (simp [size_ext_eq]; omega)) _))))

/-- nothing in it is longer than that -/
def fitsLB (ls : List (List (Nat × Nat))) : Bool := decide (ls.length ≤ 2147483647) && ls.all fun l => decide (l.length ≤ 2147483647)
def fitsB (s : Sh) : Bool := fitsLB s.lists && decide (s.parts.length ≤ 2147483647)
theorem fits_no {ls : List (List (Nat × Nat))} {i : Nat} (hi : i < ls.length) (h : ¬ (ls[i]'hi).length ≤ 2147483647) : fitsLB ls = false := by
  unfold fitsLB
  rw [show (ls.all fun l => decide (l.length ≤ 2147483647)) = false from List.all_eq_false.2 ⟨_, List.getElem_mem hi, by simpa using h⟩]; simp
def FitTo (ls : List (List (Nat × Nat))) (k : Nat) : Prop := ∀ (i : Nat) (h : i < ls.length), i < k → (ls[i]'h).length ≤ 2147483647
theorem fits_yes {ls : List (List (Nat × Nat))} (h0 : ls.length ≤ 2147483647) (h : FitTo ls ls.length) : fitsLB ls = true := by
  unfold fitsLB
  rw [decide_eq_true h0, Bool.true_and, List.all_eq_true]
  intro l hl
  obtain ⟨i, hi, rfl⟩ := List.getElem_of_mem hl
  exact decide_eq_true (h i hi hi)
theorem FitTo.succ {ls : List (List (Nat × Nat))} {k : Nat} (hk : k < ls.length) (h : FitTo ls k) (h2 : (ls[k]'hk).length ≤ 2147483647) : FitTo ls (k + 1) := fun i hi hik => by
  by_cases c : i = k
  · subst c; exact h2
  · exact h i hi (by omega)
set_option maxHeartbeats 1000000 in
theorem fits2_c (ls : List (List (Nat × Nat))) (lv : Value) (w : World) (hs : LissIn w lv ls) : Calls Tryz.prog 29 #[lv] w (Ret w (.bool (fitsLB ls))) := by
  obtain ⟨a, cap, rfl, hn, hget⟩ := hs.get
  unfold big at hn
  by_cases hb : ls.length ≤ 2147483647
  · have e1 : (2147483647 < (ls.length : Int)) = False := eq_false (by omega)
    have Hget := Lib.hid hget
    clear hget hs
    go_enter Tryz.func29, Tryz.ntmps29
    go_wp2_with fail
    go_loopw [10] (fun s1 wr => ∃ k : Nat, k ≤ ls.length ∧ s1 = .int .i64 k ∧ wr = w ∧ FitTo ls k) (fun s1 _ => ls.length - (intOf s1).toNat)
    case atStart => exact ⟨0, by omega, rfl, rfl, fun i hi h => by omega⟩
    case round =>
      obtain ⟨k, hk, rfl, rfl, hf⟩ := hrel
      have Hf := Lib.hid hf
      clear hf
      by_cases hlt : k < ls.length
      · obtain ⟨b, off, a', cap', rfl, hbb, hc, hn', _⟩ := Hget.out k hlt
        by_cases hl : (ls[k]'hlt).length ≤ 2147483647
        · have Hf2 := Lib.hid (Hf.out.succ hlt hl)
          have e2 : (2147483647 < ((ls[k]'hlt).length : Int)) = False := eq_false (by omega)
          clear hl
          go_wp2_with fail
          go_roundw
          case rel => exact ⟨k + 1, by omega, by go_num, trivial, Hf2.out⟩
          case measure => simp [intOf]; omega
        · have Hr := Lib.hid (fits_no hlt hl)
          have e2 : (2147483647 < ((ls[k]'hlt).length : Int)) = True := eq_true (by omega)
          clear hl
          go_wp2_with fail
          go_ret
          exact Ret.mk (by rw [Hr.out]; rfl) (by repeat (first | (with_reducible exact Kp.refl _) | (with_reducible assumption) | (with_reducible apply Kp.ext) | (with_reducible apply Kp.alloc) | (with_reducible apply Kp.drew) | (with_reducible apply Kp.drewN) | (with_reducible refine Kp.setCell ?_ (by first | (dsimp only; omega) | (simp; omega) | (simp; done) | (simp [size_ext_eq]; omega)) _)))
      · obtain rfl : k = ls.length := by omega
        have Hr := Lib.hid (fits_yes hb Hf.out)
        go_wp2_with fail
        go_ret
        exact Ret.mk (by rw [Hr.out]; rfl) (by repeat (first | (with_reducible exact Kp.refl _) | (with_reducible assumption) | (with_reducible apply Kp.ext) | (with_reducible apply Kp.alloc) | (with_reducible apply Kp.drew) | (with_reducible apply Kp.drewN) | (with_reducible refine Kp.setCell ?_ (by first | (dsimp only; omega) | (simp; omega) | (simp; done) | (simp [size_ext_eq]; omega)) _)))
  · have hr : fitsLB ls = false := by unfold fitsLB; rw [decide_eq_false hb]; rfl
    rw [hr]
    have e1 : (2147483647 < (ls.length : Int)) = True := eq_true (by omega)
    clear hr hb hget hs
    go_enter Tryz.func29, Tryz.ntmps29
    go_wp2_with fail
    go_ret
    exact Ret.mk rfl (by repeat (first | (with_reducible exact Kp.refl _) | (with_reducible assumption) | (with_reducible apply Kp.ext) | (with_reducible apply Kp.alloc) | (with_reducible apply Kp.drew) | (with_reducible apply Kp.drewN) | (with_reducible refine Kp.setCell ?_ (by first | (dsimp only; omega) | (simp; omega) | (simp; done) | (simp [size_ext_eq]; omega)) _)))
theorem fits1_c (d : Nat) (s : Sh) (lv pv : Value) (w : World) (hs : ShIn (d + 1) w lv pv s) : Calls Tryz.prog 14 #[.agg #[.int .i64 s.kind, lv, pv]] w (Ret w (.bool (fitsB s))) := by
  obtain ⟨hl, a2, c2, rfl, hb, _⟩ := hs
  have hc := fun w' (hk : Kp w w') => fits2_c s.lists lv w' (hl.kp hk)
  obtain ⟨a1, c1, rfl, _, _⟩ := hl
  unfold fitsB
  unfold big at hb
  cases h1 : fitsLB s.lists
  · rw [h1] at hc
    have Hc := Lib.hid hc
    clear hc h1
    go_enter Tryz.func14, Tryz.ntmps14
    go_wp2_with (go_at_call 29; (first | (with_reducible refine (Ret.at_ext (Hc.out _ (by repeat (first | (with_reducible exact Kp.refl _) | (with_reducible assumption) | (with_reducible apply Kp.ext) | (with_reducible apply Kp.alloc) | (with_reducible apply Kp.drew) | (with_reducible apply Kp.drewN) | (with_reducible refine Kp.setCell ?_ (by first | (dsimp only; omega) | (simp; omega) | (simp; done) | (simp [size_ext_eq]; omega)) _))))).mono ?_) | (with_reducible refine (Hc.out _ (by repeat (first | (with_reducible exact Kp.refl _) | (with_reducible assumption) | (with_reducible apply Kp.ext) | (with_reducible apply Kp.alloc) | (with_reducible apply Kp.drew) | (with_reducible apply Kp.drewN) | (with_reducible refine Kp.setCell ?_ (by first | (dsimp only; omega) | (simp; omega) | (simp; done) | (simp [size_ext_eq]; omega)) _)))).mono ?_)); rintro e w' ⟨rfl, u, rfl⟩)
    go_ret
    exact Ret.mk rfl (by repeat (first | (with_reducible exact Kp.refl _) | (with_reducible assumption) | (with_reducible apply Kp.ext) | (with_reducible apply Kp.alloc) | (with_reducible apply Kp.drew) | (with_reducible apply Kp.drewN) | (with_reducible refine Kp.setCell ?_ (by first | (dsimp only; omega) | (simp; omega) | (simp; done) | (simp [size_ext_eq]; omega)) _)))
  · rw [h1] at hc
    have Hc := Lib.hid hc
    clear hc h1
    by_cases h2 : s.parts.length ≤ 2147483647
    · rw [decide_eq_true h2]
      have e1 : (2147483647 < (s.parts.length : Int)) = False := eq_false (by omega)
      clear h2
      go_enter Tryz.func14, Tryz.ntmps14
      go_wp2_with (go_at_call 29; (first | (with_reducible refine (Ret.at_ext (Hc.out _ (by repeat (first | (with_reducible exact Kp.refl _) | (with_reducible assumption) | (with_reducible apply Kp.ext) | (with_reducible apply Kp.alloc) | (with_reducible apply Kp.drew) | (with_reducible apply Kp.drewN) | (with_reducible refine Kp.setCell ?_ (by first | (dsimp only; omega) | (simp; omega) | (simp; done) | (simp [size_ext_eq]; omega)) _))))).mono ?_) | (with_reducible refine (Hc.out _ (by repeat (first | (with_reducible exact Kp.refl _) | (with_reducible assumption) | (with_reducible apply Kp.ext) | (with_reducible apply Kp.alloc) | (with_reducible apply Kp.drew) | (with_reducible apply Kp.drewN) | (with_reducible refine Kp.setCell ?_ (by first | (dsimp only; omega) | (simp; omega) | (simp; done) | (simp [size_ext_eq]; omega)) _)))).mono ?_)); rintro e w' ⟨rfl, u, rfl⟩)
      go_ret
      exact Ret.mk rfl (by repeat (first | (with_reducible exact Kp.refl _) | (with_reducible assumption) | (with_reducible apply Kp.ext) | (with_reducible apply Kp.alloc) | (with_reducible apply Kp.drew) | (with_reducible apply Kp.drewN) | (with_reducible refine Kp.setCell ?_ (by first | (dsimp only; omega) | (simp; omega) | (simp; done) | (simp [size_ext_eq]; omega)) _)))
    · rw [decide_eq_false h2]
      have e1 : (2147483647 < (s.parts.length : Int)) = True := eq_true (by omega)
      clear h2
      go_enter Tryz.func14, Tryz.ntmps14
      go_wp2_with (go_at_call 29; (first | (with_reducible refine (Ret.at_ext (Hc.out _ (by repeat (first | (with_reducible exact Kp.refl _) | (with_reducible assumption) | (with_reducible apply Kp.ext) | (with_reducible apply Kp.alloc) | (with_reducible apply Kp.drew) | (with_reducible apply Kp.drewN) | (with_reducible refine Kp.setCell ?_ (by first | (dsimp only; omega) | (simp; omega) | (simp; done) | (simp [size_ext_eq]; omega)) _))))).mono ?_) | (with_reducible refine (Hc.out _ (by repeat (first | (with_reducible exact Kp.refl _) | (with_reducible assumption) | (with_reducible apply Kp.ext) | (with_reducible apply Kp.alloc) | (with_reducible apply Kp.drew) | (with_reducible apply Kp.drewN) | (with_reducible refine Kp.setCell ?_ (by first | (dsimp only; omega) | (simp; omega) | (simp; done) | (simp [size_ext_eq]; omega)) _)))).mono ?_)); rintro e w' ⟨rfl, u, rfl⟩)
      go_ret
      exact Ret.mk rfl (by repeat (first | (with_reducible exact Kp.refl _) | (with_reducible assumption) | (with_reducible apply Kp.ext) | (with_reducible apply Kp.alloc) | (with_reducible apply Kp.drew) | (with_reducible apply Kp.drewN) | (with_reducible refine Kp.setCell ?_ (by first | (dsimp only; omega) | (simp; omega) | (simp; done) | (simp [size_ext_eq]; omega)) _)))
end Go.Proofs.YtnmokjgiilfdlaaGreatDoor
