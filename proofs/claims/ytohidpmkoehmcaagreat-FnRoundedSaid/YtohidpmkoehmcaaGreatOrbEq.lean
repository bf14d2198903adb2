/-
  orb.Equal and the methods Equal of the package, walked.
-/
import Derived.Test.YtohidpmkoehmcaaGreatSpecEq
namespace Go.Proofs.YtohidpmkoehmcaaGreat
open PubFl Go.RowKit

attribute [local go_sem] cell_ext frozen_ext ext_setCell cell_store size_ext_eq lt_p0 lt_p1 lt_p2 lt_p3 lt_p4 lt_p5 lt_p6 lt_p7 lt_p8 lt_p9 lt_p10 lt_p11 lt_p12 lt_p13 lt_p14 lt_p15 lt_p16 lt_p17 lt_p18 lt_p19 lt_p20 lt_p21 lt_p22 lt_p23 lt_p24 lt_p25 lt_p26 lt_p27 lt_p28 lt_p29 lt_p30 lt_p31 lt_p32 lt_q1 lt_q2 lt_q3 lt_q4 lt_q5 lt_q6 lt_q7 lt_q8 lt_q9 lt_q10 lt_q11 lt_q12 lt_q13 lt_q14 lt_q15 lt_q16 lt_q17 lt_q18 lt_q19 lt_q20 lt_q21 lt_q22 lt_q23 lt_q24 lt_q25 lt_q26 lt_q27 lt_q28 lt_q29 lt_q30 lt_q31 lt_q32 run_fop run_store_float
attribute [local go_sem high] cmp_eql cmp_neq cmp_lss cmp_leq cmp_gtr cmp_geq

theorem optEq_c (ax ay bx by' : Nat) (w : World) : Calls Tryz.prog 36 #[.agg #[.float .f64 ax, .float .f64 ay], .agg #[.float .f64 bx, .float .f64 by']] w (Ret w (.bool (eqP (ax, ay) (bx, by')))) := by
  unfold eqP
  cases c1 : eqF ax bx
  · go_enter Tryz.func36, Tryz.ntmps36
    go_wp2_with fail
    go_ret
    exact Ret.mk rfl (by repeat (first | (with_reducible exact Kp.refl _) | (with_reducible assumption) | (with_reducible apply Kp.ext) | (with_reducible apply Kp.alloc) | (with_reducible apply Kp.drew) | (with_reducible apply Kp.drewN) | (with_reducible refine Kp.setCell ?_ (by first | (dsimp only; omega) | (simp; omega) | (simp; done) | (simp [size_ext_eq]; omega)) _)))
  · cases c2 : eqF ay by'
    · go_enter Tryz.func36, Tryz.ntmps36
      go_wp2_with fail
      go_ret
      exact Ret.mk rfl (by repeat (first | (with_reducible exact Kp.refl _) | (with_reducible assumption) | (with_reducible apply Kp.ext) | (with_reducible apply Kp.alloc) | (with_reducible apply Kp.drew) | (with_reducible apply Kp.drewN) | (with_reducible refine Kp.setCell ?_ (by first | (dsimp only; omega) | (simp; omega) | (simp; done) | (simp [size_ext_eq]; omega)) _)))
    · go_enter Tryz.func36, Tryz.ntmps36
      go_wp2_with fail
      go_ret
      exact Ret.mk rfl (by repeat (first | (with_reducible exact Kp.refl _) | (with_reducible assumption) | (with_reducible apply Kp.ext) | (with_reducible apply Kp.alloc) | (with_reducible apply Kp.drew) | (with_reducible apply Kp.drewN) | (with_reducible refine Kp.setCell ?_ (by first | (dsimp only; omega) | (simp; omega) | (simp; done) | (simp [size_ext_eq]; omega)) _)))

set_option maxRecDepth 20000 in
set_option maxHeartbeats 2000000 in
theorem mpEq_c (g g' cap cap' : Nat) (ps qs : List (Nat × Nat)) (hn : ps.length ≤ 1000) (hm : qs.length ≤ 1000) (w : World) (hg : g < w.heap.size) (hg' : g' < w.heap.size) (hp : PtsAt w g 0 ps) (hq : PtsAt w g' 0 qs) :
    Calls Tryz.prog 37 #[.slice (some ⟨g, 0, none⟩) ps.length cap, .slice (some ⟨g', 0, none⟩) qs.length cap'] w (Ret w (.bool (eqPts ps qs))) := by
  obtain ⟨p1, p2, p3⟩ := pt_facts ps qs
  generalize eqPts ps qs = r at *
  by_cases el : ps.length = qs.length
  · obtain ⟨n, hnq⟩ : ∃ n, qs.length = n := ⟨_, rfl⟩
    have P3 := Lib.hid (p3 el)
    rw [hnq] at el
    rw [el, hnq]
    rw [el] at hn
    have El := Lib.hid el
    have Hnq := Lib.hid hnq
    have P2 := Lib.hid p2
    have Hp := Lib.hid hp
    have Hq := Lib.hid hq
    clear el hnq p1 p2 p3 hp hq hm
    go_enter Tryz.func37, Tryz.ntmps37
    go_wp2_with fail
    go_loopw [13] (fun s13 wr => ∃ k : Nat, k ≤ n ∧ s13 = .int .i64 k ∧ Kp w wr ∧ AllTo (fun i => eqP (ps.getD i (0, 0)) (qs.getD i (0, 0))) k) (fun s13 _ => n - (intOf s13).toNat)
    case atStart => exact ⟨0, by omega, rfl, (by repeat (first | (with_reducible exact Kp.refl _) | (with_reducible assumption) | (with_reducible apply Kp.ext) | (with_reducible apply Kp.alloc) | (with_reducible apply Kp.drew) | (with_reducible apply Kp.drewN) | (with_reducible refine Kp.setCell ?_ (by first | (dsimp only; omega) | (simp; omega) | (simp; done) | (simp [size_ext_eq]; omega)) _))), fun i hi => by omega⟩
    case round =>
      obtain ⟨k, hk, rfl, hkp, hall⟩ := hrel
      have Hall := Lib.hid hall
      clear hall
      by_cases hlt : k < n
      · have hj1 : k < ps.length := by have := El.out; omega
        have hj2 : k < qs.length := by have := Hnq.out; omega
        obtain ⟨e0, e1⟩ := Hp.out.kp hg hkp k hj1
        obtain ⟨g0, g1⟩ := Hq.out.kp hg' hkp k hj2
        have hgd := getD_in ps k hj1
        have hgd' := getD_in qs k hj2
        have hgr := Nat.lt_of_lt_of_le hg hkp.size
        have hgr' := Nat.lt_of_lt_of_le hg' hkp.size
        obtain ⟨⟨px, py⟩, hq⟩ : ∃ q, ps[k]'hj1 = q := ⟨_, rfl⟩
        obtain ⟨⟨qx, qy⟩, hq'⟩ : ∃ q, qs[k]'hj2 = q := ⟨_, rfl⟩
        rw [hq] at e0 e1 hgd
        rw [hq'] at g0 g1 hgd'
        simp only [Nat.zero_add] at e0 e1 g0 g1
        have hno := P2.out k hj1
        have hyes := Hall.out.succ (k := k)
        simp only [hgd, hgd'] at hno hyes
        have hj3 : (k : Int) < (n : Int) := by omega
        have hpe := fun w => optEq_c px py qx qy w
        clear hq hq' hgd hgd'
        cases c : eqP (px, py) (qx, qy)
        · have hr : r = false := hno c
          rw [c] at hpe
          have Hpe := Lib.hid hpe
          subst hr
          clear hno hyes c hpe
          go_wp2_with fail
          first | (with_reducible refine wp_region_ext_lit2 ?_ ?_ ?_) | refine wp_region_ext_lit ?_ ?_ ?_
          kernel_rfl
          kernel_rfl
          repeat (go_big_quiet_step (first | (go_at_call 36; with_reducible exact Ret.quiet (Hpe.out _))))
          refine wpQuiet_nil ?_
          rintro _ ⟨u, rfl⟩
          go_wp2_with fail
          go_ret
          exact Ret.mk rfl (by repeat (first | (with_reducible exact Kp.refl _) | (with_reducible assumption) | (with_reducible apply Kp.ext) | (with_reducible apply Kp.alloc) | (with_reducible apply Kp.drew) | (with_reducible apply Kp.drewN) | (with_reducible refine Kp.setCell ?_ (by first | (dsimp only; omega) | (simp; omega) | (simp; done) | (simp [size_ext_eq]; omega)) _)))
        · have hnx := Lib.hid (hyes c)
          rw [c] at hpe
          have Hpe := Lib.hid hpe
          clear hno hyes c hpe
          go_wp2_with fail
          first | (with_reducible refine wp_region_ext_lit2 ?_ ?_ ?_) | refine wp_region_ext_lit ?_ ?_ ?_
          kernel_rfl
          kernel_rfl
          repeat (go_big_quiet_step (first | (go_at_call 36; with_reducible exact Ret.quiet (Hpe.out _))))
          refine wpQuiet_nil ?_
          rintro _ ⟨u, rfl⟩
          go_wp2_with fail
          go_roundw
          case rel => exact ⟨k + 1, by omega, by go_num, (by repeat (first | (with_reducible exact Kp.refl _) | (with_reducible assumption) | (with_reducible apply Kp.ext) | (with_reducible apply Kp.alloc) | (with_reducible apply Kp.drew) | (with_reducible apply Kp.drewN) | (with_reducible refine Kp.setCell ?_ (by first | (dsimp only; omega) | (simp; omega) | (simp; done) | (simp [size_ext_eq]; omega)) _))), hnx.out⟩
          case measure => simp [intOf]; omega
      · obtain rfl : k = n := by omega
        have hr : r = true := P3.out (by rw [El.out]; exact Hall.out)
        subst hr
        go_wp2_with fail
        go_ret
        exact Ret.mk rfl (by repeat (first | (with_reducible exact Kp.refl _) | (with_reducible assumption) | (with_reducible apply Kp.ext) | (with_reducible apply Kp.alloc) | (with_reducible apply Kp.drew) | (with_reducible apply Kp.drewN) | (with_reducible refine Kp.setCell ?_ (by first | (dsimp only; omega) | (simp; omega) | (simp; done) | (simp [size_ext_eq]; omega)) _)))
  · have hr : r = false := p1 el
    have el1 : (ps.length == qs.length) = false := beq_eq_false_iff_ne.2 el
    have el2 : ((ps.length : Int) == (qs.length : Int)) = false := beq_eq_false_iff_ne.2 (by omega)
    have el3 : (ps.length = qs.length) = False := eq_false el
    subst hr
    clear p1 p2 p3 el hp hq
    go_enter Tryz.func37, Tryz.ntmps37
    go_wp2_with fail
    go_ret
    exact Ret.mk rfl (by repeat (first | (with_reducible exact Kp.refl _) | (with_reducible assumption) | (with_reducible apply Kp.ext) | (with_reducible apply Kp.alloc) | (with_reducible apply Kp.drew) | (with_reducible apply Kp.drewN) | (with_reducible refine Kp.setCell ?_ (by first | (dsimp only; omega) | (simp; omega) | (simp; done) | (simp [size_ext_eq]; omega)) _)))

theorem lsEq_c (g g' cap cap' : Nat) (ps qs : List (Nat × Nat)) (hn : ps.length ≤ 1000) (hm : qs.length ≤ 1000) (w : World) (hg : g < w.heap.size) (hg' : g' < w.heap.size) (hp : PtsAt w g 0 ps) (hq : PtsAt w g' 0 qs) :
    Calls Tryz.prog 38 #[.slice (some ⟨g, 0, none⟩) ps.length cap, .slice (some ⟨g', 0, none⟩) qs.length cap'] w (Ret w (.bool (eqPts ps qs))) := by
  have H := Lib.hid (fun w' (hk : Kp w w') => mpEq_c g g' cap cap' ps qs hn hm w' (Nat.lt_of_lt_of_le hg hk.size) (Nat.lt_of_lt_of_le hg' hk.size) (hp.kp hg hk) (hq.kp hg' hk))
  clear hp hq
  go_enter Tryz.func38, Tryz.ntmps38
  go_wp2_with (go_at_call 37; (first | (with_reducible refine (Ret.at_ext (H.out _ (by repeat (first | (with_reducible exact Kp.refl _) | (with_reducible assumption) | (with_reducible apply Kp.ext) | (with_reducible apply Kp.alloc) | (with_reducible apply Kp.drew) | (with_reducible apply Kp.drewN) | (with_reducible refine Kp.setCell ?_ (by first | (dsimp only; omega) | (simp; omega) | (simp; done) | (simp [size_ext_eq]; omega)) _))))).mono ?_) | (with_reducible refine (H.out _ (by repeat (first | (with_reducible exact Kp.refl _) | (with_reducible assumption) | (with_reducible apply Kp.ext) | (with_reducible apply Kp.alloc) | (with_reducible apply Kp.drew) | (with_reducible apply Kp.drewN) | (with_reducible refine Kp.setCell ?_ (by first | (dsimp only; omega) | (simp; omega) | (simp; done) | (simp [size_ext_eq]; omega)) _)))).mono ?_)); rintro e w' ⟨rfl, u, rfl⟩)
  go_ret
  exact Ret.mk rfl (by repeat (first | (with_reducible exact Kp.refl _) | (with_reducible assumption) | (with_reducible apply Kp.ext) | (with_reducible apply Kp.alloc) | (with_reducible apply Kp.drew) | (with_reducible apply Kp.drewN) | (with_reducible refine Kp.setCell ?_ (by first | (dsimp only; omega) | (simp; omega) | (simp; done) | (simp [size_ext_eq]; omega)) _)))
theorem ringEq_c (g g' cap cap' : Nat) (ps qs : List (Nat × Nat)) (hn : ps.length ≤ 1000) (hm : qs.length ≤ 1000) (w : World) (hg : g < w.heap.size) (hg' : g' < w.heap.size) (hp : PtsAt w g 0 ps) (hq : PtsAt w g' 0 qs) :
    Calls Tryz.prog 40 #[.slice (some ⟨g, 0, none⟩) ps.length cap, .slice (some ⟨g', 0, none⟩) qs.length cap'] w (Ret w (.bool (eqPts ps qs))) := by
  have H := Lib.hid (fun w' (hk : Kp w w') => mpEq_c g g' cap cap' ps qs hn hm w' (Nat.lt_of_lt_of_le hg hk.size) (Nat.lt_of_lt_of_le hg' hk.size) (hp.kp hg hk) (hq.kp hg' hk))
  clear hp hq
  go_enter Tryz.func40, Tryz.ntmps40
  go_wp2_with (go_at_call 37; (first | (with_reducible refine (Ret.at_ext (H.out _ (by repeat (first | (with_reducible exact Kp.refl _) | (with_reducible assumption) | (with_reducible apply Kp.ext) | (with_reducible apply Kp.alloc) | (with_reducible apply Kp.drew) | (with_reducible apply Kp.drewN) | (with_reducible refine Kp.setCell ?_ (by first | (dsimp only; omega) | (simp; omega) | (simp; done) | (simp [size_ext_eq]; omega)) _))))).mono ?_) | (with_reducible refine (H.out _ (by repeat (first | (with_reducible exact Kp.refl _) | (with_reducible assumption) | (with_reducible apply Kp.ext) | (with_reducible apply Kp.alloc) | (with_reducible apply Kp.drew) | (with_reducible apply Kp.drewN) | (with_reducible refine Kp.setCell ?_ (by first | (dsimp only; omega) | (simp; omega) | (simp; done) | (simp [size_ext_eq]; omega)) _)))).mono ?_)); rintro e w' ⟨rfl, u, rfl⟩)
  go_ret
  exact Ret.mk rfl (by repeat (first | (with_reducible exact Kp.refl _) | (with_reducible assumption) | (with_reducible apply Kp.ext) | (with_reducible apply Kp.alloc) | (with_reducible apply Kp.drew) | (with_reducible apply Kp.drewN) | (with_reducible refine Kp.setCell ?_ (by first | (dsimp only; omega) | (simp; omega) | (simp; done) | (simp [size_ext_eq]; omega)) _)))

set_option maxRecDepth 20000 in
set_option maxHeartbeats 2000000 in
theorem pgEq_c (g g' cap cap' n m : Nat) (hn : n ≤ 1000) (hm : m ≤ 1000) (w : World) (hg : g < w.heap.size) (hg' : g' < w.heap.size) (r : Nat → Bool)
    (h : n = m → ∀ i, i < n → ∃ x y, w.cell? ⟨g, i, none⟩ = some x ∧ w.cell? ⟨g', i, none⟩ = some y ∧ (∃ a n c, x = .slice a n c) ∧ (∃ a n c, y = .slice a n c) ∧ ∀ w', Kp w w' → Calls Tryz.prog 40 #[x, y] w' (Ret w' (.bool (r i)))) :
    Calls Tryz.prog 41 #[.slice (some ⟨g, 0, none⟩) n cap, .slice (some ⟨g', 0, none⟩) m cap'] w (Ret w (.bool (decide (n = m) && (List.range n).all r))) := by
  by_cases el : n = m
  · subst el
    rw [decide_eq_true rfl, Bool.true_and]
    have H := Lib.hid (h rfl)
    clear h hm
    go_enter Tryz.func41, Tryz.ntmps41
    go_wp2_with fail
    go_loopw [13] (fun si wr => ∃ k : Nat, k ≤ n ∧ si = .int .i64 k ∧ Kp w wr ∧ AllTo r k) (fun si _ => n - (intOf si).toNat)
    case atStart => exact ⟨0, by omega, rfl, (by repeat (first | (with_reducible exact Kp.refl _) | (with_reducible assumption) | (with_reducible apply Kp.ext) | (with_reducible apply Kp.alloc) | (with_reducible apply Kp.drew) | (with_reducible apply Kp.drewN) | (with_reducible refine Kp.setCell ?_ (by first | (dsimp only; omega) | (simp; omega) | (simp; done) | (simp [size_ext_eq]; omega)) _))), fun i hi => by omega⟩
    case round =>
      obtain ⟨k, hk, rfl, hkp, hall⟩ := hrel
      have Hall := Lib.hid hall
      clear hall
      by_cases hlt : k < n
      · obtain ⟨x, y, e0, g0, ⟨a3, n3, c3, rfl⟩, ⟨a4, n4, c4, rfl⟩, he⟩ := H.out k hlt
        have e0 := Kp.cell hkp e0 hg
        have g0 := Kp.cell hkp g0 hg'
        have hgr := Nat.lt_of_lt_of_le hg hkp.size
        have hgr' := Nat.lt_of_lt_of_le hg' hkp.size
        have hj3 : (k : Int) < (n : Int) := by omega
        have he2 := fun w' (hk' : Kp _ w') => he w' (hkp.trans hk')
        cases c : r k
        · have Hr := Lib.hid (all_no hlt c)
          rw [c] at he2
          have HE := Lib.hid he2
          clear c he he2
          go_wp2_with fail
          first | (with_reducible refine wp_region_ext_lit2 ?_ ?_ ?_) | refine wp_region_ext_lit ?_ ?_ ?_
          kernel_rfl
          kernel_rfl
          repeat (go_big_quiet_step (first | (go_at_call 40; with_reducible exact Ret.quiet (HE.out _ (by repeat (first | (with_reducible exact Kp.refl _) | (with_reducible assumption) | (with_reducible apply Kp.ext) | (with_reducible apply Kp.alloc) | (with_reducible apply Kp.drew) | (with_reducible apply Kp.drewN) | (with_reducible refine Kp.setCell ?_ (by first | (dsimp only; omega) | (simp; omega) | (simp; done) | (simp [size_ext_eq]; omega)) _)))))))
          refine wpQuiet_nil ?_
          rintro _ ⟨u, rfl⟩
          go_wp2_with fail
          go_ret
          exact Ret.mk (by rw [Hr.out]; rfl) (by repeat (first | (with_reducible exact Kp.refl _) | (with_reducible assumption) | (with_reducible apply Kp.ext) | (with_reducible apply Kp.alloc) | (with_reducible apply Kp.drew) | (with_reducible apply Kp.drewN) | (with_reducible refine Kp.setCell ?_ (by first | (dsimp only; omega) | (simp; omega) | (simp; done) | (simp [size_ext_eq]; omega)) _)))
        · have hnx := Lib.hid (Hall.out.succ c)
          rw [c] at he2
          have HE := Lib.hid he2
          clear c he he2
          go_wp2_with fail
          first | (with_reducible refine wp_region_ext_lit2 ?_ ?_ ?_) | refine wp_region_ext_lit ?_ ?_ ?_
          kernel_rfl
          kernel_rfl
          repeat (go_big_quiet_step (first | (go_at_call 40; with_reducible exact Ret.quiet (HE.out _ (by repeat (first | (with_reducible exact Kp.refl _) | (with_reducible assumption) | (with_reducible apply Kp.ext) | (with_reducible apply Kp.alloc) | (with_reducible apply Kp.drew) | (with_reducible apply Kp.drewN) | (with_reducible refine Kp.setCell ?_ (by first | (dsimp only; omega) | (simp; omega) | (simp; done) | (simp [size_ext_eq]; omega)) _)))))))
          refine wpQuiet_nil ?_
          rintro _ ⟨u, rfl⟩
          go_wp2_with fail
          go_roundw
          case rel => exact ⟨k + 1, by omega, by go_num, (by repeat (first | (with_reducible exact Kp.refl _) | (with_reducible assumption) | (with_reducible apply Kp.ext) | (with_reducible apply Kp.alloc) | (with_reducible apply Kp.drew) | (with_reducible apply Kp.drewN) | (with_reducible refine Kp.setCell ?_ (by first | (dsimp only; omega) | (simp; omega) | (simp; done) | (simp [size_ext_eq]; omega)) _))), hnx.out⟩
          case measure => simp [intOf]; omega
      · obtain rfl : k = n := by omega
        have Hr := Lib.hid (all_yes Hall.out)
        go_wp2_with fail
        go_ret
        exact Ret.mk (by rw [Hr.out]; rfl) (by repeat (first | (with_reducible exact Kp.refl _) | (with_reducible assumption) | (with_reducible apply Kp.ext) | (with_reducible apply Kp.alloc) | (with_reducible apply Kp.drew) | (with_reducible apply Kp.drewN) | (with_reducible refine Kp.setCell ?_ (by first | (dsimp only; omega) | (simp; omega) | (simp; done) | (simp [size_ext_eq]; omega)) _)))
  · rw [decide_eq_false el, Bool.false_and]
    have el1 : (n == m) = false := beq_eq_false_iff_ne.2 el
    have el2 : ((n : Int) == (m : Int)) = false := beq_eq_false_iff_ne.2 (by omega)
    have el3 : (n = m) = False := eq_false el
    clear h el
    go_enter Tryz.func41, Tryz.ntmps41
    go_wp2_with fail
    go_ret
    exact Ret.mk rfl (by repeat (first | (with_reducible exact Kp.refl _) | (with_reducible assumption) | (with_reducible apply Kp.ext) | (with_reducible apply Kp.alloc) | (with_reducible apply Kp.drew) | (with_reducible apply Kp.drewN) | (with_reducible refine Kp.setCell ?_ (by first | (dsimp only; omega) | (simp; omega) | (simp; done) | (simp [size_ext_eq]; omega)) _)))
set_option maxRecDepth 20000 in
set_option maxHeartbeats 2000000 in
theorem mlsEq_c (g g' cap cap' n m : Nat) (hn : n ≤ 1000) (hm : m ≤ 1000) (w : World) (hg : g < w.heap.size) (hg' : g' < w.heap.size) (r : Nat → Bool)
    (h : n = m → ∀ i, i < n → ∃ x y, w.cell? ⟨g, i, none⟩ = some x ∧ w.cell? ⟨g', i, none⟩ = some y ∧ (∃ a n c, x = .slice a n c) ∧ (∃ a n c, y = .slice a n c) ∧ ∀ w', Kp w w' → Calls Tryz.prog 38 #[x, y] w' (Ret w' (.bool (r i)))) :
    Calls Tryz.prog 39 #[.slice (some ⟨g, 0, none⟩) n cap, .slice (some ⟨g', 0, none⟩) m cap'] w (Ret w (.bool (decide (n = m) && (List.range n).all r))) := by
  by_cases el : n = m
  · subst el
    rw [decide_eq_true rfl, Bool.true_and]
    have H := Lib.hid (h rfl)
    clear h hm
    go_enter Tryz.func39, Tryz.ntmps39
    go_wp2_with fail
    go_loopw [14] (fun si wr => ∃ k : Nat, k ≤ n ∧ si = .int .i64 k ∧ Kp w wr ∧ AllTo r k) (fun si _ => n - (intOf si).toNat)
    case atStart => exact ⟨0, by omega, rfl, (by repeat (first | (with_reducible exact Kp.refl _) | (with_reducible assumption) | (with_reducible apply Kp.ext) | (with_reducible apply Kp.alloc) | (with_reducible apply Kp.drew) | (with_reducible apply Kp.drewN) | (with_reducible refine Kp.setCell ?_ (by first | (dsimp only; omega) | (simp; omega) | (simp; done) | (simp [size_ext_eq]; omega)) _))), fun i hi => by omega⟩
    case round =>
      obtain ⟨k, hk, rfl, hkp, hall⟩ := hrel
      have Hall := Lib.hid hall
      clear hall
      by_cases hlt : k < n
      · obtain ⟨x, y, e0, g0, ⟨a3, n3, c3, rfl⟩, ⟨a4, n4, c4, rfl⟩, he⟩ := H.out k hlt
        have e0 := Kp.cell hkp e0 hg
        have g0 := Kp.cell hkp g0 hg'
        have hgr := Nat.lt_of_lt_of_le hg hkp.size
        have hgr' := Nat.lt_of_lt_of_le hg' hkp.size
        have hj3 : (k : Int) < (n : Int) := by omega
        have he2 := fun w' (hk' : Kp _ w') => he w' (hkp.trans hk')
        cases c : r k
        · have Hr := Lib.hid (all_no hlt c)
          rw [c] at he2
          have HE := Lib.hid he2
          clear c he he2
          go_wp2_with (go_at_call 38; (first | (with_reducible refine (Ret.at_ext (HE.out _ (by repeat (first | (with_reducible exact Kp.refl _) | (with_reducible assumption) | (with_reducible apply Kp.ext) | (with_reducible apply Kp.alloc) | (with_reducible apply Kp.drew) | (with_reducible apply Kp.drewN) | (with_reducible refine Kp.setCell ?_ (by first | (dsimp only; omega) | (simp; omega) | (simp; done) | (simp [size_ext_eq]; omega)) _))))).mono ?_) | (with_reducible refine (HE.out _ (by repeat (first | (with_reducible exact Kp.refl _) | (with_reducible assumption) | (with_reducible apply Kp.ext) | (with_reducible apply Kp.alloc) | (with_reducible apply Kp.drew) | (with_reducible apply Kp.drewN) | (with_reducible refine Kp.setCell ?_ (by first | (dsimp only; omega) | (simp; omega) | (simp; done) | (simp [size_ext_eq]; omega)) _)))).mono ?_)); rintro e w' ⟨rfl, u, rfl⟩)
          go_ret
          exact Ret.mk (by rw [Hr.out]; rfl) (by repeat (first | (with_reducible exact Kp.refl _) | (with_reducible assumption) | (with_reducible apply Kp.ext) | (with_reducible apply Kp.alloc) | (with_reducible apply Kp.drew) | (with_reducible apply Kp.drewN) | (with_reducible refine Kp.setCell ?_ (by first | (dsimp only; omega) | (simp; omega) | (simp; done) | (simp [size_ext_eq]; omega)) _)))
        · have hnx := Lib.hid (Hall.out.succ c)
          rw [c] at he2
          have HE := Lib.hid he2
          clear c he he2
          go_wp2_with (go_at_call 38; (first | (with_reducible refine (Ret.at_ext (HE.out _ (by repeat (first | (with_reducible exact Kp.refl _) | (with_reducible assumption) | (with_reducible apply Kp.ext) | (with_reducible apply Kp.alloc) | (with_reducible apply Kp.drew) | (with_reducible apply Kp.drewN) | (with_reducible refine Kp.setCell ?_ (by first | (dsimp only; omega) | (simp; omega) | (simp; done) | (simp [size_ext_eq]; omega)) _))))).mono ?_) | (with_reducible refine (HE.out _ (by repeat (first | (with_reducible exact Kp.refl _) | (with_reducible assumption) | (with_reducible apply Kp.ext) | (with_reducible apply Kp.alloc) | (with_reducible apply Kp.drew) | (with_reducible apply Kp.drewN) | (with_reducible refine Kp.setCell ?_ (by first | (dsimp only; omega) | (simp; omega) | (simp; done) | (simp [size_ext_eq]; omega)) _)))).mono ?_)); rintro e w' ⟨rfl, u, rfl⟩)
          go_roundw
          case rel => exact ⟨k + 1, by omega, by go_num, (by repeat (first | (with_reducible exact Kp.refl _) | (with_reducible assumption) | (with_reducible apply Kp.ext) | (with_reducible apply Kp.alloc) | (with_reducible apply Kp.drew) | (with_reducible apply Kp.drewN) | (with_reducible refine Kp.setCell ?_ (by first | (dsimp only; omega) | (simp; omega) | (simp; done) | (simp [size_ext_eq]; omega)) _))), hnx.out⟩
          case measure => simp [intOf]; omega
      · obtain rfl : k = n := by omega
        have Hr := Lib.hid (all_yes Hall.out)
        go_wp2_with fail
        go_ret
        exact Ret.mk (by rw [Hr.out]; rfl) (by repeat (first | (with_reducible exact Kp.refl _) | (with_reducible assumption) | (with_reducible apply Kp.ext) | (with_reducible apply Kp.alloc) | (with_reducible apply Kp.drew) | (with_reducible apply Kp.drewN) | (with_reducible refine Kp.setCell ?_ (by first | (dsimp only; omega) | (simp; omega) | (simp; done) | (simp [size_ext_eq]; omega)) _)))
  · rw [decide_eq_false el, Bool.false_and]
    have el1 : (n == m) = false := beq_eq_false_iff_ne.2 el
    have el2 : ((n : Int) == (m : Int)) = false := beq_eq_false_iff_ne.2 (by omega)
    have el3 : (n = m) = False := eq_false el
    clear h el
    go_enter Tryz.func39, Tryz.ntmps39
    go_wp2_with fail
    go_ret
    exact Ret.mk rfl (by repeat (first | (with_reducible exact Kp.refl _) | (with_reducible assumption) | (with_reducible apply Kp.ext) | (with_reducible apply Kp.alloc) | (with_reducible apply Kp.drew) | (with_reducible apply Kp.drewN) | (with_reducible refine Kp.setCell ?_ (by first | (dsimp only; omega) | (simp; omega) | (simp; done) | (simp [size_ext_eq]; omega)) _)))
set_option maxRecDepth 20000 in
set_option maxHeartbeats 2000000 in
theorem mpgEq_c (g g' cap cap' n m : Nat) (hn : n ≤ 1000) (hm : m ≤ 1000) (w : World) (hg : g < w.heap.size) (hg' : g' < w.heap.size) (r : Nat → Bool)
    (h : n = m → ∀ i, i < n → ∃ x y, w.cell? ⟨g, i, none⟩ = some x ∧ w.cell? ⟨g', i, none⟩ = some y ∧ (∃ a n c, x = .slice a n c) ∧ (∃ a n c, y = .slice a n c) ∧ ∀ w', Kp w w' → Calls Tryz.prog 41 #[x, y] w' (Ret w' (.bool (r i)))) :
    Calls Tryz.prog 42 #[.slice (some ⟨g, 0, none⟩) n cap, .slice (some ⟨g', 0, none⟩) m cap'] w (Ret w (.bool (decide (n = m) && (List.range n).all r))) := by
  by_cases el : n = m
  · subst el
    rw [decide_eq_true rfl, Bool.true_and]
    have H := Lib.hid (h rfl)
    clear h hm
    go_enter Tryz.func42, Tryz.ntmps42
    go_wp2_with fail
    go_loopw [14] (fun si wr => ∃ k : Nat, k ≤ n ∧ si = .int .i64 k ∧ Kp w wr ∧ AllTo r k) (fun si _ => n - (intOf si).toNat)
    case atStart => exact ⟨0, by omega, rfl, (by repeat (first | (with_reducible exact Kp.refl _) | (with_reducible assumption) | (with_reducible apply Kp.ext) | (with_reducible apply Kp.alloc) | (with_reducible apply Kp.drew) | (with_reducible apply Kp.drewN) | (with_reducible refine Kp.setCell ?_ (by first | (dsimp only; omega) | (simp; omega) | (simp; done) | (simp [size_ext_eq]; omega)) _))), fun i hi => by omega⟩
    case round =>
      obtain ⟨k, hk, rfl, hkp, hall⟩ := hrel
      have Hall := Lib.hid hall
      clear hall
      by_cases hlt : k < n
      · obtain ⟨x, y, e0, g0, ⟨a3, n3, c3, rfl⟩, ⟨a4, n4, c4, rfl⟩, he⟩ := H.out k hlt
        have e0 := Kp.cell hkp e0 hg
        have g0 := Kp.cell hkp g0 hg'
        have hgr := Nat.lt_of_lt_of_le hg hkp.size
        have hgr' := Nat.lt_of_lt_of_le hg' hkp.size
        have hj3 : (k : Int) < (n : Int) := by omega
        have he2 := fun w' (hk' : Kp _ w') => he w' (hkp.trans hk')
        cases c : r k
        · have Hr := Lib.hid (all_no hlt c)
          rw [c] at he2
          have HE := Lib.hid he2
          clear c he he2
          go_wp2_with (go_at_call 41; (first | (with_reducible refine (Ret.at_ext (HE.out _ (by repeat (first | (with_reducible exact Kp.refl _) | (with_reducible assumption) | (with_reducible apply Kp.ext) | (with_reducible apply Kp.alloc) | (with_reducible apply Kp.drew) | (with_reducible apply Kp.drewN) | (with_reducible refine Kp.setCell ?_ (by first | (dsimp only; omega) | (simp; omega) | (simp; done) | (simp [size_ext_eq]; omega)) _))))).mono ?_) | (with_reducible refine (HE.out _ (by repeat (first | (with_reducible exact Kp.refl _) | (with_reducible assumption) | (with_reducible apply Kp.ext) | (with_reducible apply Kp.alloc) | (with_reducible apply Kp.drew) | (with_reducible apply Kp.drewN) | (with_reducible refine Kp.setCell ?_ (by first | (dsimp only; omega) | (simp; omega) | (simp; done) | (simp [size_ext_eq]; omega)) _)))).mono ?_)); rintro e w' ⟨rfl, u, rfl⟩)
          go_ret
          exact Ret.mk (by rw [Hr.out]; rfl) (by repeat (first | (with_reducible exact Kp.refl _) | (with_reducible assumption) | (with_reducible apply Kp.ext) | (with_reducible apply Kp.alloc) | (with_reducible apply Kp.drew) | (with_reducible apply Kp.drewN) | (with_reducible refine Kp.setCell ?_ (by first | (dsimp only; omega) | (simp; omega) | (simp; done) | (simp [size_ext_eq]; omega)) _)))
        · have hnx := Lib.hid (Hall.out.succ c)
          rw [c] at he2
          have HE := Lib.hid he2
          clear c he he2
          go_wp2_with (go_at_call 41; (first | (with_reducible refine (Ret.at_ext (HE.out _ (by repeat (first | (with_reducible exact Kp.refl _) | (with_reducible assumption) | (with_reducible apply Kp.ext) | (with_reducible apply Kp.alloc) | (with_reducible apply Kp.drew) | (with_reducible apply Kp.drewN) | (with_reducible refine Kp.setCell ?_ (by first | (dsimp only; omega) | (simp; omega) | (simp; done) | (simp [size_ext_eq]; omega)) _))))).mono ?_) | (with_reducible refine (HE.out _ (by repeat (first | (with_reducible exact Kp.refl _) | (with_reducible assumption) | (with_reducible apply Kp.ext) | (with_reducible apply Kp.alloc) | (with_reducible apply Kp.drew) | (with_reducible apply Kp.drewN) | (with_reducible refine Kp.setCell ?_ (by first | (dsimp only; omega) | (simp; omega) | (simp; done) | (simp [size_ext_eq]; omega)) _)))).mono ?_)); rintro e w' ⟨rfl, u, rfl⟩)
          go_roundw
          case rel => exact ⟨k + 1, by omega, by go_num, (by repeat (first | (with_reducible exact Kp.refl _) | (with_reducible assumption) | (with_reducible apply Kp.ext) | (with_reducible apply Kp.alloc) | (with_reducible apply Kp.drew) | (with_reducible apply Kp.drewN) | (with_reducible refine Kp.setCell ?_ (by first | (dsimp only; omega) | (simp; omega) | (simp; done) | (simp [size_ext_eq]; omega)) _))), hnx.out⟩
          case measure => simp [intOf]; omega
      · obtain rfl : k = n := by omega
        have Hr := Lib.hid (all_yes Hall.out)
        go_wp2_with fail
        go_ret
        exact Ret.mk (by rw [Hr.out]; rfl) (by repeat (first | (with_reducible exact Kp.refl _) | (with_reducible assumption) | (with_reducible apply Kp.ext) | (with_reducible apply Kp.alloc) | (with_reducible apply Kp.drew) | (with_reducible apply Kp.drewN) | (with_reducible refine Kp.setCell ?_ (by first | (dsimp only; omega) | (simp; omega) | (simp; done) | (simp [size_ext_eq]; omega)) _)))
  · rw [decide_eq_false el, Bool.false_and]
    have el1 : (n == m) = false := beq_eq_false_iff_ne.2 el
    have el2 : ((n : Int) == (m : Int)) = false := beq_eq_false_iff_ne.2 (by omega)
    have el3 : (n = m) = False := eq_false el
    clear h el
    go_enter Tryz.func42, Tryz.ntmps42
    go_wp2_with fail
    go_ret
    exact Ret.mk rfl (by repeat (first | (with_reducible exact Kp.refl _) | (with_reducible assumption) | (with_reducible apply Kp.ext) | (with_reducible apply Kp.alloc) | (with_reducible apply Kp.drew) | (with_reducible apply Kp.drewN) | (with_reducible refine Kp.setCell ?_ (by first | (dsimp only; omega) | (simp; omega) | (simp; done) | (simp [size_ext_eq]; omega)) _)))
set_option maxRecDepth 20000 in
set_option maxHeartbeats 2000000 in
theorem colEq_c (g g' cap cap' n m : Nat) (hn : n ≤ 1000) (hm : m ≤ 1000) (w : World) (hg : g < w.heap.size) (hg' : g' < w.heap.size) (r : Nat → Bool)
    (h : n = m → ∀ i, i < n → ∃ x y, w.cell? ⟨g, i, none⟩ = some x ∧ w.cell? ⟨g', i, none⟩ = some y ∧ (∃ t u, x = .iface t u) ∧ (∃ t u, y = .iface t u) ∧ ∀ w', Kp w w' → Calls Tryz.prog 24 #[x, y] w' (Ret w' (.bool (r i)))) :
    Calls Tryz.prog 43 #[.slice (some ⟨g, 0, none⟩) n cap, .slice (some ⟨g', 0, none⟩) m cap'] w (Ret w (.bool (decide (n = m) && (List.range n).all r))) := by
  by_cases el : n = m
  · subst el
    rw [decide_eq_true rfl, Bool.true_and]
    have H := Lib.hid (h rfl)
    clear h hm
    go_enter Tryz.func43, Tryz.ntmps43
    go_wp2_with fail
    go_loopw [14] (fun si wr => ∃ k : Nat, k ≤ n ∧ si = .int .i64 k ∧ Kp w wr ∧ AllTo r k) (fun si _ => n - (intOf si).toNat)
    case atStart => exact ⟨0, by omega, rfl, (by repeat (first | (with_reducible exact Kp.refl _) | (with_reducible assumption) | (with_reducible apply Kp.ext) | (with_reducible apply Kp.alloc) | (with_reducible apply Kp.drew) | (with_reducible apply Kp.drewN) | (with_reducible refine Kp.setCell ?_ (by first | (dsimp only; omega) | (simp; omega) | (simp; done) | (simp [size_ext_eq]; omega)) _))), fun i hi => by omega⟩
    case round =>
      obtain ⟨k, hk, rfl, hkp, hall⟩ := hrel
      have Hall := Lib.hid hall
      clear hall
      by_cases hlt : k < n
      · obtain ⟨x, y, e0, g0, ⟨t3, u3, rfl⟩, ⟨t4, u4', rfl⟩, he⟩ := H.out k hlt
        have e0 := Kp.cell hkp e0 hg
        have g0 := Kp.cell hkp g0 hg'
        have hgr := Nat.lt_of_lt_of_le hg hkp.size
        have hgr' := Nat.lt_of_lt_of_le hg' hkp.size
        have hj3 : (k : Int) < (n : Int) := by omega
        have he2 := fun w' (hk' : Kp _ w') => he w' (hkp.trans hk')
        cases c : r k
        · have Hr := Lib.hid (all_no hlt c)
          rw [c] at he2
          have HE := Lib.hid he2
          clear c he he2
          go_wp2_with (go_at_call 24; (first | (with_reducible refine (Ret.at_ext (HE.out _ (by repeat (first | (with_reducible exact Kp.refl _) | (with_reducible assumption) | (with_reducible apply Kp.ext) | (with_reducible apply Kp.alloc) | (with_reducible apply Kp.drew) | (with_reducible apply Kp.drewN) | (with_reducible refine Kp.setCell ?_ (by first | (dsimp only; omega) | (simp; omega) | (simp; done) | (simp [size_ext_eq]; omega)) _))))).mono ?_) | (with_reducible refine (HE.out _ (by repeat (first | (with_reducible exact Kp.refl _) | (with_reducible assumption) | (with_reducible apply Kp.ext) | (with_reducible apply Kp.alloc) | (with_reducible apply Kp.drew) | (with_reducible apply Kp.drewN) | (with_reducible refine Kp.setCell ?_ (by first | (dsimp only; omega) | (simp; omega) | (simp; done) | (simp [size_ext_eq]; omega)) _)))).mono ?_)); rintro e w' ⟨rfl, u, rfl⟩)
          go_ret
          exact Ret.mk (by rw [Hr.out]; rfl) (by repeat (first | (with_reducible exact Kp.refl _) | (with_reducible assumption) | (with_reducible apply Kp.ext) | (with_reducible apply Kp.alloc) | (with_reducible apply Kp.drew) | (with_reducible apply Kp.drewN) | (with_reducible refine Kp.setCell ?_ (by first | (dsimp only; omega) | (simp; omega) | (simp; done) | (simp [size_ext_eq]; omega)) _)))
        · have hnx := Lib.hid (Hall.out.succ c)
          rw [c] at he2
          have HE := Lib.hid he2
          clear c he he2
          go_wp2_with (go_at_call 24; (first | (with_reducible refine (Ret.at_ext (HE.out _ (by repeat (first | (with_reducible exact Kp.refl _) | (with_reducible assumption) | (with_reducible apply Kp.ext) | (with_reducible apply Kp.alloc) | (with_reducible apply Kp.drew) | (with_reducible apply Kp.drewN) | (with_reducible refine Kp.setCell ?_ (by first | (dsimp only; omega) | (simp; omega) | (simp; done) | (simp [size_ext_eq]; omega)) _))))).mono ?_) | (with_reducible refine (HE.out _ (by repeat (first | (with_reducible exact Kp.refl _) | (with_reducible assumption) | (with_reducible apply Kp.ext) | (with_reducible apply Kp.alloc) | (with_reducible apply Kp.drew) | (with_reducible apply Kp.drewN) | (with_reducible refine Kp.setCell ?_ (by first | (dsimp only; omega) | (simp; omega) | (simp; done) | (simp [size_ext_eq]; omega)) _)))).mono ?_)); rintro e w' ⟨rfl, u, rfl⟩)
          go_roundw
          case rel => exact ⟨k + 1, by omega, by go_num, (by repeat (first | (with_reducible exact Kp.refl _) | (with_reducible assumption) | (with_reducible apply Kp.ext) | (with_reducible apply Kp.alloc) | (with_reducible apply Kp.drew) | (with_reducible apply Kp.drewN) | (with_reducible refine Kp.setCell ?_ (by first | (dsimp only; omega) | (simp; omega) | (simp; done) | (simp [size_ext_eq]; omega)) _))), hnx.out⟩
          case measure => simp [intOf]; omega
      · obtain rfl : k = n := by omega
        have Hr := Lib.hid (all_yes Hall.out)
        go_wp2_with fail
        go_ret
        exact Ret.mk (by rw [Hr.out]; rfl) (by repeat (first | (with_reducible exact Kp.refl _) | (with_reducible assumption) | (with_reducible apply Kp.ext) | (with_reducible apply Kp.alloc) | (with_reducible apply Kp.drew) | (with_reducible apply Kp.drewN) | (with_reducible refine Kp.setCell ?_ (by first | (dsimp only; omega) | (simp; omega) | (simp; done) | (simp [size_ext_eq]; omega)) _)))
  · rw [decide_eq_false el, Bool.false_and]
    have el1 : (n == m) = false := beq_eq_false_iff_ne.2 el
    have el2 : ((n : Int) == (m : Int)) = false := beq_eq_false_iff_ne.2 (by omega)
    have el3 : (n = m) = False := eq_false el
    clear h el
    go_enter Tryz.func43, Tryz.ntmps43
    go_wp2_with fail
    go_ret
    exact Ret.mk rfl (by repeat (first | (with_reducible exact Kp.refl _) | (with_reducible assumption) | (with_reducible apply Kp.ext) | (with_reducible apply Kp.alloc) | (with_reducible apply Kp.drew) | (with_reducible apply Kp.drewN) | (with_reducible refine Kp.setCell ?_ (by first | (dsimp only; omega) | (simp; omega) | (simp; done) | (simp [size_ext_eq]; omega)) _)))
end Go.Proofs.YtohidpmkoehmcaaGreat
