/-
  laws.FnSame, walked: it answers true.
-/
import Derived.Test.YtnmdgdmnmoghhaaShapes
namespace Go.Proofs.Ytnmdgdmnmoghhaa
open PubFl Go.RowKit

attribute [local go_sem] cell_ext frozen_ext ext_setCell cell_store size_ext_eq lt_p0 lt_p1 lt_p2 lt_p3 lt_p4 lt_p5 lt_p6 lt_p7 lt_p8 lt_p9 lt_p10 lt_p11 lt_p12 lt_p13 lt_p14 lt_p15 lt_p16 lt_p17 lt_p18 lt_p19 lt_p20 lt_p21 lt_p22 lt_p23 lt_p24 lt_p25 lt_p26 lt_p27 lt_p28 lt_p29 lt_p30 lt_p31 lt_p32 lt_q1 lt_q2 lt_q3 lt_q4 lt_q5 lt_q6 lt_q7 lt_q8 lt_q9 lt_q10 lt_q11 lt_q12 lt_q13 lt_q14 lt_q15 lt_q16 lt_q17 lt_q18 lt_q19 lt_q20 lt_q21 lt_q22 lt_q23 lt_q24 lt_q25 lt_q26 lt_q27 lt_q28 lt_q29 lt_q30 lt_q31 lt_q32 run_fop run_store_float
attribute [local go_sem high] cmp_eql cmp_neq cmp_lss cmp_leq cmp_gtr cmp_geq

/-- words of 64 bits, all of them -/
def BitsSh : Nat → Sh → Prop
  | 0, _ => True
  | d + 1, s => (∀ l ∈ s.lists, Bits l) ∧ ∀ p ∈ s.parts, BitsSh d p
theorem ShIn.bits {w : World} : ∀ {d : Nat} {lv pv : Value} {s : Sh}, ShIn d w lv pv s → BitsSh d s
  | 0, _, _, _, _ => trivial
  | d + 1, lv, pv, s, h => by
    obtain ⟨⟨a, c, _, _, hl⟩, _, _, _, _, hp⟩ := h
    refine ⟨fun l hm => ?_, fun p hm => ?_⟩
    · obtain ⟨i, hi, rfl⟩ := List.getElem_of_mem hm
      rcases hl with hl | ⟨b, off, _, _, hl⟩
      · exfalso; clear hm; rw [hl] at hi; simp at hi
      · obtain ⟨x, _, _, _, _, _, _, hb⟩ := hl i hi
        exact hb
    · obtain ⟨i, hi, rfl⟩ := List.getElem_of_mem hm
      rcases hp with hp | ⟨b, off, _, _, hp⟩
      · exfalso; clear hm; rw [hp] at hi; simp at hi
      · obtain ⟨_, _, _, _, _, h4⟩ := hp i hi
        exact ShIn.bits h4
theorem eqPts_refl {ps : List (Nat × Nat)} (hb : Bits ps) (h : allPts finB ps = true) : eqPts ps ps = true := by
  refine (pt_facts ps ps).all rfl fun i hi => ?_
  have hf : (finB (ps.getD i (0, 0)).1 && finB (ps.getD i (0, 0)).2) = true := all_to (f := fun i => finB (ps.getD i (0, 0)).1 && finB (ps.getD i (0, 0)).2) h i hi
  obtain ⟨b1, b2⟩ := hb i hi
  have e : ps.getD i (0, 0) = ps[i]'hi := by rw [List.getD_eq_getElem?_getD, List.getElem?_eq_getElem hi]; rfl
  show eqP (ps.getD i (0, 0)) (ps.getD i (0, 0)) = true
  rw [e] at hf ⊢
  simp only [Bool.and_eq_true] at hf
  unfold eqP
  rw [(fin_sub b1 hf.1).2.2, (fin_sub b2 hf.2).2.2]
  rfl
theorem eqSh_refl : ∀ {d : Nat} {s : Sh}, BitsSh d s → allSh finB d s = true → eqSh d s s = true
  | 0, _, _, _ => rfl
  | d + 1, s, hb, h => by
    unfold allSh at h
    simp only [Bool.and_eq_true] at h
    refine (eq_facts d s s).all rfl rfl rfl (fun i hi => ?_) fun i hi => ?_
    · exact eqPts_refl (hb.1 _ (mem_getD hi)) (all_to (f := fun i => allPts finB (s.lists.getD i [])) h.1 i hi)
    · exact eqSh_refl (hb.2 _ (mem_getD hi)) (all_to (f := fun i => allSh finB d (s.parts.getD i dsh)) h.2 i hi)

set_option maxRecDepth 100000 in
set_option maxHeartbeats 4000000 in
theorem lawSame_walk (a : Sh) (lv pv : Value) (b : Sh) (lv' pv' : Value) (w : World) (ha : ShIn 4 w lv pv a) (hb : ShIn 4 w lv' pv' b) :
    Calls Try.prog 4 #[.agg #[.int .i64 a.kind, lv, pv], .agg #[.int .i64 b.kind, lv', pv']] w (Ret w (.bool true)) := by
  have hF := fun w' (hk : Kp w w') => fits1_c 3 a lv pv w' (ha.kp hk)
  have hF' := fun w' (hk : Kp w w') => fits1_c 3 b lv' pv' w' (hb.kp hk)
  have hN := fun w' (hk : Kp w w') => finShape_c a lv pv w' (ha.kp hk)
  have hN' := fun w' (hk : Kp w w') => finShape_c b lv' pv' w' (hb.kp hk)
  have hS : finShB a = true → ∀ w', Kp w w' → Calls Try.prog 13 #[.agg #[.int .i64 a.kind, lv, pv], .agg #[.int .i64 a.kind, lv, pv]] w' (Ret w' (.bool true)) := fun h w' hk => by
    unfold finShB at h
    simp only [Bool.and_eq_true] at h
    have := same_c a a lv pv lv pv w' (ha.kp hk) (ha.kp hk) h.1 h.1
    rwa [eqSh_refl (ShIn.bits ha) h.2] at this
  have hT : finShB a = true → finShB b = true → ∀ w', Kp w w' → Calls Try.prog 13 #[.agg #[.int .i64 a.kind, lv, pv], .agg #[.int .i64 b.kind, lv', pv']] w' (Ret w' (.bool (eqSh 4 a b))) := fun h h' w' hk => by
    unfold finShB at h h'
    simp only [Bool.and_eq_true] at h h'
    exact same_c a b lv pv lv' pv' w' (ha.kp hk) (hb.kp hk) h.1 h'.1
  have hU : finShB a = true → finShB b = true → ∀ w', Kp w w' → Calls Try.prog 14 #[.agg #[.int .i64 a.kind, lv, pv], .agg #[.int .i64 b.kind, lv', pv']] w' (Ret w' (.bool (eqSh 4 a b))) := fun h h' w' hk => by
    unfold finShB at h h'
    simp only [Bool.and_eq_true] at h h'
    exact specEq_c 4 a b lv pv lv' pv' w' (ha.kp hk) (hb.kp hk) (isSh_facts h.1).1 (isSh_facts h'.1).1
  obtain ⟨⟨p1, n1, c1, rfl⟩, p2, n2, c2, rfl⟩ := ha.form
  obtain ⟨⟨q1, m1, d1, rfl⟩, q2, m2, d2, rfl⟩ := hb.form
  generalize eqSh 4 a b = r at *
  have H1 := Lib.hid hF
  have H2 := Lib.hid hF'
  have H3 := Lib.hid hN
  have H4 := Lib.hid hN'
  clear hF hF' hN hN' ha hb
  cases f1 : fitsB a
  · rw [f1] at H1
    clear H2 H3 H4 hS hT hU f1
    go_enter Try.func4, Try.ntmps4
    go_wp2_with (go_at_call 6; (first | (with_reducible refine (Ret.at_ext (H1.out _ (by repeat (first | (with_reducible exact Kp.refl _) | (with_reducible assumption) | (with_reducible apply Kp.ext) | (with_reducible apply Kp.alloc) | (with_reducible apply Kp.drew) | (with_reducible apply Kp.drewN) | (with_reducible refine Kp.setCell ?_ (by first | (dsimp only; omega) | (simp; omega) | (simp; done) | (simp [size_ext_eq]; omega)) _))))).mono ?_) | (with_reducible refine (H1.out _ (by repeat (first | (with_reducible exact Kp.refl _) | (with_reducible assumption) | (with_reducible apply Kp.ext) | (with_reducible apply Kp.alloc) | (with_reducible apply Kp.drew) | (with_reducible apply Kp.drewN) | (with_reducible refine Kp.setCell ?_ (by first | (dsimp only; omega) | (simp; omega) | (simp; done) | (simp [size_ext_eq]; omega)) _)))).mono ?_)); rintro e w' ⟨rfl, u, rfl⟩)
    go_ret
    exact Ret.mk rfl (by repeat (first | (with_reducible exact Kp.refl _) | (with_reducible assumption) | (with_reducible apply Kp.ext) | (with_reducible apply Kp.alloc) | (with_reducible apply Kp.drew) | (with_reducible apply Kp.drewN) | (with_reducible refine Kp.setCell ?_ (by first | (dsimp only; omega) | (simp; omega) | (simp; done) | (simp [size_ext_eq]; omega)) _)))
  · rw [f1] at H1
    cases f2 : fitsB b
    · rw [f2] at H2
      clear H3 H4 hS hT hU f1 f2
      go_enter Try.func4, Try.ntmps4
      go_wp2_with (first | (go_at_call 6; (first | (with_reducible refine (Ret.at_ext (H1.out _ (by repeat (first | (with_reducible exact Kp.refl _) | (with_reducible assumption) | (with_reducible apply Kp.ext) | (with_reducible apply Kp.alloc) | (with_reducible apply Kp.drew) | (with_reducible apply Kp.drewN) | (with_reducible refine Kp.setCell ?_ (by first | (dsimp only; omega) | (simp; omega) | (simp; done) | (simp [size_ext_eq]; omega)) _))))).mono ?_) | (with_reducible refine (H1.out _ (by repeat (first | (with_reducible exact Kp.refl _) | (with_reducible assumption) | (with_reducible apply Kp.ext) | (with_reducible apply Kp.alloc) | (with_reducible apply Kp.drew) | (with_reducible apply Kp.drewN) | (with_reducible refine Kp.setCell ?_ (by first | (dsimp only; omega) | (simp; omega) | (simp; done) | (simp [size_ext_eq]; omega)) _)))).mono ?_)); rintro e w' ⟨rfl, u, rfl⟩) | (go_at_call 6; (first | (with_reducible refine (Ret.at_ext (H2.out _ (by repeat (first | (with_reducible exact Kp.refl _) | (with_reducible assumption) | (with_reducible apply Kp.ext) | (with_reducible apply Kp.alloc) | (with_reducible apply Kp.drew) | (with_reducible apply Kp.drewN) | (with_reducible refine Kp.setCell ?_ (by first | (dsimp only; omega) | (simp; omega) | (simp; done) | (simp [size_ext_eq]; omega)) _))))).mono ?_) | (with_reducible refine (H2.out _ (by repeat (first | (with_reducible exact Kp.refl _) | (with_reducible assumption) | (with_reducible apply Kp.ext) | (with_reducible apply Kp.alloc) | (with_reducible apply Kp.drew) | (with_reducible apply Kp.drewN) | (with_reducible refine Kp.setCell ?_ (by first | (dsimp only; omega) | (simp; omega) | (simp; done) | (simp [size_ext_eq]; omega)) _)))).mono ?_)); rintro e w' ⟨rfl, u, rfl⟩))
      go_ret
      exact Ret.mk rfl (by repeat (first | (with_reducible exact Kp.refl _) | (with_reducible assumption) | (with_reducible apply Kp.ext) | (with_reducible apply Kp.alloc) | (with_reducible apply Kp.drew) | (with_reducible apply Kp.drewN) | (with_reducible refine Kp.setCell ?_ (by first | (dsimp only; omega) | (simp; omega) | (simp; done) | (simp [size_ext_eq]; omega)) _)))
    · rw [f2] at H2
      cases f3 : finShB a
      · rw [f3] at H3
        clear H4 hS hT hU f1 f2 f3
        go_enter Try.func4, Try.ntmps4
        go_wp2_with (first | (go_at_call 6; (first | (with_reducible refine (Ret.at_ext (H1.out _ (by repeat (first | (with_reducible exact Kp.refl _) | (with_reducible assumption) | (with_reducible apply Kp.ext) | (with_reducible apply Kp.alloc) | (with_reducible apply Kp.drew) | (with_reducible apply Kp.drewN) | (with_reducible refine Kp.setCell ?_ (by first | (dsimp only; omega) | (simp; omega) | (simp; done) | (simp [size_ext_eq]; omega)) _))))).mono ?_) | (with_reducible refine (H1.out _ (by repeat (first | (with_reducible exact Kp.refl _) | (with_reducible assumption) | (with_reducible apply Kp.ext) | (with_reducible apply Kp.alloc) | (with_reducible apply Kp.drew) | (with_reducible apply Kp.drewN) | (with_reducible refine Kp.setCell ?_ (by first | (dsimp only; omega) | (simp; omega) | (simp; done) | (simp [size_ext_eq]; omega)) _)))).mono ?_)); rintro e w' ⟨rfl, u, rfl⟩) | (go_at_call 6; (first | (with_reducible refine (Ret.at_ext (H2.out _ (by repeat (first | (with_reducible exact Kp.refl _) | (with_reducible assumption) | (with_reducible apply Kp.ext) | (with_reducible apply Kp.alloc) | (with_reducible apply Kp.drew) | (with_reducible apply Kp.drewN) | (with_reducible refine Kp.setCell ?_ (by first | (dsimp only; omega) | (simp; omega) | (simp; done) | (simp [size_ext_eq]; omega)) _))))).mono ?_) | (with_reducible refine (H2.out _ (by repeat (first | (with_reducible exact Kp.refl _) | (with_reducible assumption) | (with_reducible apply Kp.ext) | (with_reducible apply Kp.alloc) | (with_reducible apply Kp.drew) | (with_reducible apply Kp.drewN) | (with_reducible refine Kp.setCell ?_ (by first | (dsimp only; omega) | (simp; omega) | (simp; done) | (simp [size_ext_eq]; omega)) _)))).mono ?_)); rintro e w' ⟨rfl, u, rfl⟩) | (go_at_call 7; (first | (with_reducible refine (Ret.at_ext (H3.out _ (by repeat (first | (with_reducible exact Kp.refl _) | (with_reducible assumption) | (with_reducible apply Kp.ext) | (with_reducible apply Kp.alloc) | (with_reducible apply Kp.drew) | (with_reducible apply Kp.drewN) | (with_reducible refine Kp.setCell ?_ (by first | (dsimp only; omega) | (simp; omega) | (simp; done) | (simp [size_ext_eq]; omega)) _))))).mono ?_) | (with_reducible refine (H3.out _ (by repeat (first | (with_reducible exact Kp.refl _) | (with_reducible assumption) | (with_reducible apply Kp.ext) | (with_reducible apply Kp.alloc) | (with_reducible apply Kp.drew) | (with_reducible apply Kp.drewN) | (with_reducible refine Kp.setCell ?_ (by first | (dsimp only; omega) | (simp; omega) | (simp; done) | (simp [size_ext_eq]; omega)) _)))).mono ?_)); rintro e w' ⟨rfl, u, rfl⟩) | (go_at_call 10; (first | (with_reducible refine (Ret.at_ext (shapes_c _)).mono ?_) | (with_reducible refine (shapes_c _).mono ?_)); rintro e w' ⟨rfl, u, rfl⟩))
        go_ret
        exact Ret.mk rfl (by repeat (first | (with_reducible exact Kp.refl _) | (with_reducible assumption) | (with_reducible apply Kp.ext) | (with_reducible apply Kp.alloc) | (with_reducible apply Kp.drew) | (with_reducible apply Kp.drewN) | (with_reducible refine Kp.setCell ?_ (by first | (dsimp only; omega) | (simp; omega) | (simp; done) | (simp [size_ext_eq]; omega)) _)))
      · rw [f3] at H3
        have HS := Lib.hid (hS f3)
        cases f4 : finShB b
        · rw [f4] at H4
          clear HS hS hT hU f1 f2 f3 f4
          go_enter Try.func4, Try.ntmps4
          go_wp2_with (first | (go_at_call 6; (first | (with_reducible refine (Ret.at_ext (H1.out _ (by repeat (first | (with_reducible exact Kp.refl _) | (with_reducible assumption) | (with_reducible apply Kp.ext) | (with_reducible apply Kp.alloc) | (with_reducible apply Kp.drew) | (with_reducible apply Kp.drewN) | (with_reducible refine Kp.setCell ?_ (by first | (dsimp only; omega) | (simp; omega) | (simp; done) | (simp [size_ext_eq]; omega)) _))))).mono ?_) | (with_reducible refine (H1.out _ (by repeat (first | (with_reducible exact Kp.refl _) | (with_reducible assumption) | (with_reducible apply Kp.ext) | (with_reducible apply Kp.alloc) | (with_reducible apply Kp.drew) | (with_reducible apply Kp.drewN) | (with_reducible refine Kp.setCell ?_ (by first | (dsimp only; omega) | (simp; omega) | (simp; done) | (simp [size_ext_eq]; omega)) _)))).mono ?_)); rintro e w' ⟨rfl, u, rfl⟩) | (go_at_call 6; (first | (with_reducible refine (Ret.at_ext (H2.out _ (by repeat (first | (with_reducible exact Kp.refl _) | (with_reducible assumption) | (with_reducible apply Kp.ext) | (with_reducible apply Kp.alloc) | (with_reducible apply Kp.drew) | (with_reducible apply Kp.drewN) | (with_reducible refine Kp.setCell ?_ (by first | (dsimp only; omega) | (simp; omega) | (simp; done) | (simp [size_ext_eq]; omega)) _))))).mono ?_) | (with_reducible refine (H2.out _ (by repeat (first | (with_reducible exact Kp.refl _) | (with_reducible assumption) | (with_reducible apply Kp.ext) | (with_reducible apply Kp.alloc) | (with_reducible apply Kp.drew) | (with_reducible apply Kp.drewN) | (with_reducible refine Kp.setCell ?_ (by first | (dsimp only; omega) | (simp; omega) | (simp; done) | (simp [size_ext_eq]; omega)) _)))).mono ?_)); rintro e w' ⟨rfl, u, rfl⟩) | (go_at_call 7; (first | (with_reducible refine (Ret.at_ext (H3.out _ (by repeat (first | (with_reducible exact Kp.refl _) | (with_reducible assumption) | (with_reducible apply Kp.ext) | (with_reducible apply Kp.alloc) | (with_reducible apply Kp.drew) | (with_reducible apply Kp.drewN) | (with_reducible refine Kp.setCell ?_ (by first | (dsimp only; omega) | (simp; omega) | (simp; done) | (simp [size_ext_eq]; omega)) _))))).mono ?_) | (with_reducible refine (H3.out _ (by repeat (first | (with_reducible exact Kp.refl _) | (with_reducible assumption) | (with_reducible apply Kp.ext) | (with_reducible apply Kp.alloc) | (with_reducible apply Kp.drew) | (with_reducible apply Kp.drewN) | (with_reducible refine Kp.setCell ?_ (by first | (dsimp only; omega) | (simp; omega) | (simp; done) | (simp [size_ext_eq]; omega)) _)))).mono ?_)); rintro e w' ⟨rfl, u, rfl⟩) | (go_at_call 7; (first | (with_reducible refine (Ret.at_ext (H4.out _ (by repeat (first | (with_reducible exact Kp.refl _) | (with_reducible assumption) | (with_reducible apply Kp.ext) | (with_reducible apply Kp.alloc) | (with_reducible apply Kp.drew) | (with_reducible apply Kp.drewN) | (with_reducible refine Kp.setCell ?_ (by first | (dsimp only; omega) | (simp; omega) | (simp; done) | (simp [size_ext_eq]; omega)) _))))).mono ?_) | (with_reducible refine (H4.out _ (by repeat (first | (with_reducible exact Kp.refl _) | (with_reducible assumption) | (with_reducible apply Kp.ext) | (with_reducible apply Kp.alloc) | (with_reducible apply Kp.drew) | (with_reducible apply Kp.drewN) | (with_reducible refine Kp.setCell ?_ (by first | (dsimp only; omega) | (simp; omega) | (simp; done) | (simp [size_ext_eq]; omega)) _)))).mono ?_)); rintro e w' ⟨rfl, u, rfl⟩) | (go_at_call 10; (first | (with_reducible refine (Ret.at_ext (shapes_c _)).mono ?_) | (with_reducible refine (shapes_c _).mono ?_)); rintro e w' ⟨rfl, u, rfl⟩))
          go_ret
          exact Ret.mk rfl (by repeat (first | (with_reducible exact Kp.refl _) | (with_reducible assumption) | (with_reducible apply Kp.ext) | (with_reducible apply Kp.alloc) | (with_reducible apply Kp.drew) | (with_reducible apply Kp.drewN) | (with_reducible refine Kp.setCell ?_ (by first | (dsimp only; omega) | (simp; omega) | (simp; done) | (simp [size_ext_eq]; omega)) _)))
        · rw [f4] at H4
          have HT := Lib.hid (hT f3 f4)
          have HU := Lib.hid (hU f3 f4)
          clear hS hT hU f1 f2 f3 f4
          go_enter Try.func4, Try.ntmps4
          go_wp2_with (first | (go_at_call 6; (first | (with_reducible refine (Ret.at_ext (H1.out _ (by repeat (first | (with_reducible exact Kp.refl _) | (with_reducible assumption) | (with_reducible apply Kp.ext) | (with_reducible apply Kp.alloc) | (with_reducible apply Kp.drew) | (with_reducible apply Kp.drewN) | (with_reducible refine Kp.setCell ?_ (by first | (dsimp only; omega) | (simp; omega) | (simp; done) | (simp [size_ext_eq]; omega)) _))))).mono ?_) | (with_reducible refine (H1.out _ (by repeat (first | (with_reducible exact Kp.refl _) | (with_reducible assumption) | (with_reducible apply Kp.ext) | (with_reducible apply Kp.alloc) | (with_reducible apply Kp.drew) | (with_reducible apply Kp.drewN) | (with_reducible refine Kp.setCell ?_ (by first | (dsimp only; omega) | (simp; omega) | (simp; done) | (simp [size_ext_eq]; omega)) _)))).mono ?_)); rintro e w' ⟨rfl, u, rfl⟩) | (go_at_call 6; (first | (with_reducible refine (Ret.at_ext (H2.out _ (by repeat (first | (with_reducible exact Kp.refl _) | (with_reducible assumption) | (with_reducible apply Kp.ext) | (with_reducible apply Kp.alloc) | (with_reducible apply Kp.drew) | (with_reducible apply Kp.drewN) | (with_reducible refine Kp.setCell ?_ (by first | (dsimp only; omega) | (simp; omega) | (simp; done) | (simp [size_ext_eq]; omega)) _))))).mono ?_) | (with_reducible refine (H2.out _ (by repeat (first | (with_reducible exact Kp.refl _) | (with_reducible assumption) | (with_reducible apply Kp.ext) | (with_reducible apply Kp.alloc) | (with_reducible apply Kp.drew) | (with_reducible apply Kp.drewN) | (with_reducible refine Kp.setCell ?_ (by first | (dsimp only; omega) | (simp; omega) | (simp; done) | (simp [size_ext_eq]; omega)) _)))).mono ?_)); rintro e w' ⟨rfl, u, rfl⟩) | (go_at_call 7; (first | (with_reducible refine (Ret.at_ext (H3.out _ (by repeat (first | (with_reducible exact Kp.refl _) | (with_reducible assumption) | (with_reducible apply Kp.ext) | (with_reducible apply Kp.alloc) | (with_reducible apply Kp.drew) | (with_reducible apply Kp.drewN) | (with_reducible refine Kp.setCell ?_ (by first | (dsimp only; omega) | (simp; omega) | (simp; done) | (simp [size_ext_eq]; omega)) _))))).mono ?_) | (with_reducible refine (H3.out _ (by repeat (first | (with_reducible exact Kp.refl _) | (with_reducible assumption) | (with_reducible apply Kp.ext) | (with_reducible apply Kp.alloc) | (with_reducible apply Kp.drew) | (with_reducible apply Kp.drewN) | (with_reducible refine Kp.setCell ?_ (by first | (dsimp only; omega) | (simp; omega) | (simp; done) | (simp [size_ext_eq]; omega)) _)))).mono ?_)); rintro e w' ⟨rfl, u, rfl⟩) | (go_at_call 7; (first | (with_reducible refine (Ret.at_ext (H4.out _ (by repeat (first | (with_reducible exact Kp.refl _) | (with_reducible assumption) | (with_reducible apply Kp.ext) | (with_reducible apply Kp.alloc) | (with_reducible apply Kp.drew) | (with_reducible apply Kp.drewN) | (with_reducible refine Kp.setCell ?_ (by first | (dsimp only; omega) | (simp; omega) | (simp; done) | (simp [size_ext_eq]; omega)) _))))).mono ?_) | (with_reducible refine (H4.out _ (by repeat (first | (with_reducible exact Kp.refl _) | (with_reducible assumption) | (with_reducible apply Kp.ext) | (with_reducible apply Kp.alloc) | (with_reducible apply Kp.drew) | (with_reducible apply Kp.drewN) | (with_reducible refine Kp.setCell ?_ (by first | (dsimp only; omega) | (simp; omega) | (simp; done) | (simp [size_ext_eq]; omega)) _)))).mono ?_)); rintro e w' ⟨rfl, u, rfl⟩) | (go_at_call 10; (first | (with_reducible refine (Ret.at_ext (shapes_c _)).mono ?_) | (with_reducible refine (shapes_c _).mono ?_)); rintro e w' ⟨rfl, u, rfl⟩))
          first | (with_reducible refine wp_region_ext_lit2 ?_ ?_ ?_) | refine wp_region_ext_lit ?_ ?_ ?_
          kernel_rfl
          kernel_rfl
          repeat (go_big_quiet_step (first | (go_at_call 10; with_reducible exact Ret.quiet (shapes_c _)) | (go_at_call 13; with_reducible exact Ret.quiet (HS.out _ (by repeat (first | (with_reducible exact Kp.refl _) | (with_reducible assumption) | (with_reducible apply Kp.ext) | (with_reducible apply Kp.alloc) | (with_reducible apply Kp.drew) | (with_reducible apply Kp.drewN) | (with_reducible refine Kp.setCell ?_ (by first | (dsimp only; omega) | (simp; omega) | (simp; done) | (simp [size_ext_eq]; omega)) _))))) | (go_at_call 13; with_reducible exact Ret.quiet (HT.out _ (by repeat (first | (with_reducible exact Kp.refl _) | (with_reducible assumption) | (with_reducible apply Kp.ext) | (with_reducible apply Kp.alloc) | (with_reducible apply Kp.drew) | (with_reducible apply Kp.drewN) | (with_reducible refine Kp.setCell ?_ (by first | (dsimp only; omega) | (simp; omega) | (simp; done) | (simp [size_ext_eq]; omega)) _))))) | (go_at_call 14; with_reducible exact Ret.quiet (HU.out _ (by repeat (first | (with_reducible exact Kp.refl _) | (with_reducible assumption) | (with_reducible apply Kp.ext) | (with_reducible apply Kp.alloc) | (with_reducible apply Kp.drew) | (with_reducible apply Kp.drewN) | (with_reducible refine Kp.setCell ?_ (by first | (dsimp only; omega) | (simp; omega) | (simp; done) | (simp [size_ext_eq]; omega)) _)))))))
          refine wpQuiet_nil ?_
          rintro _ ⟨u, rfl⟩
          go_wp2_with fail
          cases r
          all_goals (go_ret; exact Ret.mk rfl (by repeat (first | (with_reducible exact Kp.refl _) | (with_reducible assumption) | (with_reducible apply Kp.ext) | (with_reducible apply Kp.alloc) | (with_reducible apply Kp.drew) | (with_reducible apply Kp.drewN) | (with_reducible refine Kp.setCell ?_ (by first | (dsimp only; omega) | (simp; omega) | (simp; done) | (simp [size_ext_eq]; omega)) _))))
end Go.Proofs.Ytnmdgdmnmoghhaa
