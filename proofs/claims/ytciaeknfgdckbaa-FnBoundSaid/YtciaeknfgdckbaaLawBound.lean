/-
  impl.Bound of a finite, full shape; laws.FnBound, walked: it answers true.
-/
import Derived.Test.YtciaeknfgdckbaaBoundK2
import Derived.Test.YtciaeknfgdckbaaFull
import Derived.Test.YtciaeknfgdckbaaPof2
import Derived.Test.YtciaeknfgdckbaaShapes
namespace Go.Proofs.Ytciaeknfgdckbaa
open PubFl Go.RowKit

attribute [local go_sem] cell_ext frozen_ext ext_setCell cell_store size_ext_eq lt_p0 lt_p1 lt_p2 lt_p3 lt_p4 lt_p5 lt_p6 lt_p7 lt_p8 lt_p9 lt_p10 lt_p11 lt_p12 lt_p13 lt_p14 lt_p15 lt_p16 lt_p17 lt_p18 lt_p19 lt_p20 lt_p21 lt_p22 lt_p23 lt_p24 lt_p25 lt_p26 lt_p27 lt_p28 lt_p29 lt_p30 lt_p31 lt_p32 lt_q1 lt_q2 lt_q3 lt_q4 lt_q5 lt_q6 lt_q7 lt_q8 lt_q9 lt_q10 lt_q11 lt_q12 lt_q13 lt_q14 lt_q15 lt_q16 lt_q17 lt_q18 lt_q19 lt_q20 lt_q21 lt_q22 lt_q23 lt_q24 lt_q25 lt_q26 lt_q27 lt_q28 lt_q29 lt_q30 lt_q31 lt_q32 run_fop run_store_float
attribute [local go_sem high] cmp_eql cmp_neq cmp_lss cmp_leq cmp_gtr cmp_geq

set_option maxRecDepth 100000 in
set_option maxHeartbeats 4000000 in
theorem lawBound_walk (s : Sh) (lv pv : Value) (w : World) (hs : ShIn 4 w lv pv s) :
    Calls Try.prog 3 #[.agg #[.int .i64 s.kind, lv, pv]] w (Ret w (.bool true)) := by
  have hF := fun w' (hk : Kp w w') => fits1_c 3 s lv pv w' (hs.kp hk)
  have hN := fun w' (hk : Kp w w') => finShape_c s lv pv w' (hs.kp hk)
  have hU : finShB s = true → ∀ w', Kp w w' → Calls Try.prog 7 #[.agg #[.int .i64 s.kind, lv, pv]] w' (Ret w' (.bool (hollowB s || fullB 4 s))) := fun h w' hk => by
    unfold finShB at h
    simp only [Bool.and_eq_true] at h
    exact isFull_c s lv pv w' (hs.kp hk) h.1
  have hO : finShB s = true → ∀ w', Kp w w' → Calls Try.prog 8 #[.agg #[.int .i64 s.kind, lv, pv]] w' (RetB w' fun lo hi w v => PtsB lo hi w v (ptsSh true 4 s)) := fun h w' hk => by
    unfold finShB at h
    simp only [Bool.and_eq_true] at h
    exact specOuter_c 4 s lv pv w' (by omega) (hs.kp hk) (isSh_facts h.1).1 (isSh_facts h.1).2
  have hlen : finShB s = true → (ptsSh true 4 s).length ≤ 40000000000 := fun h => by
    unfold finShB at h
    simp only [Bool.and_eq_true] at h
    have := ptsSh_len (o := true) (isSh_facts h.1).1 (isSh_facts h.1).2
    omega
  have hB : finShB s = true → fullB 4 s = true → ∀ w', Kp w w' → Calls Try.prog 10 #[.agg #[.int .i64 s.kind, lv, pv]] w' (Ret w' (.tuple #[.agg #[.float .f64 (boxSh 4 s).ax, .float .f64 (boxSh 4 s).ay], .agg #[.float .f64 (boxSh 4 s).bx, .float .f64 (boxSh 4 s).b_y]])) := fun h h' w' hk => by
    unfold finShB at h
    simp only [Bool.and_eq_true] at h
    exact boundI_c s lv pv w' (hs.kp hk) h.1 (finSh_of (ShIn.bits hs) h.2) h'
  have hA : finShB s = true → fullB 4 s = true → ∀ x0 y0 (hp : 0 < (ptsSh true 4 s).length) (h0 : (ptsSh true 4 s)[0]'hp = (x0, y0)), eqF (boxSh 4 s).ax (lowF (x0, y0) (ptsSh true 4 s)).1 = true ∧ eqF (boxSh 4 s).ay (lowF (x0, y0) (ptsSh true 4 s)).2 = true ∧ eqF (boxSh 4 s).bx (highF (x0, y0) (ptsSh true 4 s)).1 = true ∧ eqF (boxSh 4 s).b_y (highF (x0, y0) (ptsSh true 4 s)).2 = true := fun h h' x0 y0 hp h0 => by
    unfold finShB at h
    simp only [Bool.and_eq_true] at h
    have hf := finSh_of (ShIn.bits hs) h.2
    exact (box_around 4 s (isSh_facts h.1).1 hf h').eq (boxOf_around (finPts_sh hf) hp h0)
  have hE : hollowB s = true → 0 < (ptsSh true 4 s).length → False := fun h hp => by
    unfold hollowB at h
    simp only [Bool.and_eq_true, decide_eq_true_eq] at h
    have := outer_le (d := 4) (s := s)
    omega
  obtain ⟨⟨p1, n1, c1, rfl⟩, p2, n2, c2, rfl⟩ := hs.form
  generalize boxSh 4 s = B at *
  generalize ptsSh true 4 s = ps at *
  generalize hollowB s = e1 at *
  generalize fullB 4 s = e2 at *
  have H1 := Lib.hid hF
  have H2 := Lib.hid hN
  clear hF hN hs
  cases f1 : fitsB s
  · rw [f1] at H1
    clear H2 hU hO hlen hB hA hE f1
    go_enter Try.func3, Try.ntmps3
    go_wp2_with (go_at_call 5; (first | (with_reducible refine (Ret.at_ext (H1.out _ (by repeat (first | (with_reducible exact Kp.refl _) | (with_reducible assumption) | (with_reducible apply Kp.ext) | (with_reducible apply Kp.alloc) | (with_reducible apply Kp.drew) | (with_reducible apply Kp.drewN) | (with_reducible refine Kp.setCell ?_ (by first | (dsimp only; omega) | (simp; omega) | (simp; done) | (simp [size_ext_eq]; omega)) _))))).mono ?_) | (with_reducible refine (H1.out _ (by repeat (first | (with_reducible exact Kp.refl _) | (with_reducible assumption) | (with_reducible apply Kp.ext) | (with_reducible apply Kp.alloc) | (with_reducible apply Kp.drew) | (with_reducible apply Kp.drewN) | (with_reducible refine Kp.setCell ?_ (by first | (dsimp only; omega) | (simp; omega) | (simp; done) | (simp [size_ext_eq]; omega)) _)))).mono ?_)); rintro e w' ⟨rfl, u, rfl⟩)
    go_ret
    exact Ret.mk rfl (by repeat (first | (with_reducible exact Kp.refl _) | (with_reducible assumption) | (with_reducible apply Kp.ext) | (with_reducible apply Kp.alloc) | (with_reducible apply Kp.drew) | (with_reducible apply Kp.drewN) | (with_reducible refine Kp.setCell ?_ (by first | (dsimp only; omega) | (simp; omega) | (simp; done) | (simp [size_ext_eq]; omega)) _)))
  · rw [f1] at H1
    cases f2 : finShB s
    · rw [f2] at H2
      clear hU hO hlen hB hA hE f1 f2
      go_enter Try.func3, Try.ntmps3
      go_wp2_with (first | (go_at_call 5; (first | (with_reducible refine (Ret.at_ext (H1.out _ (by repeat (first | (with_reducible exact Kp.refl _) | (with_reducible assumption) | (with_reducible apply Kp.ext) | (with_reducible apply Kp.alloc) | (with_reducible apply Kp.drew) | (with_reducible apply Kp.drewN) | (with_reducible refine Kp.setCell ?_ (by first | (dsimp only; omega) | (simp; omega) | (simp; done) | (simp [size_ext_eq]; omega)) _))))).mono ?_) | (with_reducible refine (H1.out _ (by repeat (first | (with_reducible exact Kp.refl _) | (with_reducible assumption) | (with_reducible apply Kp.ext) | (with_reducible apply Kp.alloc) | (with_reducible apply Kp.drew) | (with_reducible apply Kp.drewN) | (with_reducible refine Kp.setCell ?_ (by first | (dsimp only; omega) | (simp; omega) | (simp; done) | (simp [size_ext_eq]; omega)) _)))).mono ?_)); rintro e w' ⟨rfl, u, rfl⟩) | (go_at_call 6; (first | (with_reducible refine (Ret.at_ext (H2.out _ (by repeat (first | (with_reducible exact Kp.refl _) | (with_reducible assumption) | (with_reducible apply Kp.ext) | (with_reducible apply Kp.alloc) | (with_reducible apply Kp.drew) | (with_reducible apply Kp.drewN) | (with_reducible refine Kp.setCell ?_ (by first | (dsimp only; omega) | (simp; omega) | (simp; done) | (simp [size_ext_eq]; omega)) _))))).mono ?_) | (with_reducible refine (H2.out _ (by repeat (first | (with_reducible exact Kp.refl _) | (with_reducible assumption) | (with_reducible apply Kp.ext) | (with_reducible apply Kp.alloc) | (with_reducible apply Kp.drew) | (with_reducible apply Kp.drewN) | (with_reducible refine Kp.setCell ?_ (by first | (dsimp only; omega) | (simp; omega) | (simp; done) | (simp [size_ext_eq]; omega)) _)))).mono ?_)); rintro e w' ⟨rfl, u, rfl⟩) | (go_at_call 9; (first | (with_reducible refine (Ret.at_ext (shapes_c _)).mono ?_) | (with_reducible refine (shapes_c _).mono ?_)); rintro e w' ⟨rfl, u, rfl⟩))
      go_ret
      exact Ret.mk rfl (by repeat (first | (with_reducible exact Kp.refl _) | (with_reducible assumption) | (with_reducible apply Kp.ext) | (with_reducible apply Kp.alloc) | (with_reducible apply Kp.drew) | (with_reducible apply Kp.drewN) | (with_reducible refine Kp.setCell ?_ (by first | (dsimp only; omega) | (simp; omega) | (simp; done) | (simp [size_ext_eq]; omega)) _)))
    · rw [f2] at H2
      have H3 := Lib.hid (hU f2)
      have HO := Lib.hid (hO f2)
      have hlen := hlen f2
      have hB := hB f2
      have hA := hA f2
      clear hU hO f1 f2
      cases f3 : (e1 || e2)
      · rw [f3] at H3
        clear HO hlen hB hA hE f3
        go_enter Try.func3, Try.ntmps3
        go_wp2_with (first | (go_at_call 5; (first | (with_reducible refine (Ret.at_ext (H1.out _ (by repeat (first | (with_reducible exact Kp.refl _) | (with_reducible assumption) | (with_reducible apply Kp.ext) | (with_reducible apply Kp.alloc) | (with_reducible apply Kp.drew) | (with_reducible apply Kp.drewN) | (with_reducible refine Kp.setCell ?_ (by first | (dsimp only; omega) | (simp; omega) | (simp; done) | (simp [size_ext_eq]; omega)) _))))).mono ?_) | (with_reducible refine (H1.out _ (by repeat (first | (with_reducible exact Kp.refl _) | (with_reducible assumption) | (with_reducible apply Kp.ext) | (with_reducible apply Kp.alloc) | (with_reducible apply Kp.drew) | (with_reducible apply Kp.drewN) | (with_reducible refine Kp.setCell ?_ (by first | (dsimp only; omega) | (simp; omega) | (simp; done) | (simp [size_ext_eq]; omega)) _)))).mono ?_)); rintro e w' ⟨rfl, u, rfl⟩) | (go_at_call 6; (first | (with_reducible refine (Ret.at_ext (H2.out _ (by repeat (first | (with_reducible exact Kp.refl _) | (with_reducible assumption) | (with_reducible apply Kp.ext) | (with_reducible apply Kp.alloc) | (with_reducible apply Kp.drew) | (with_reducible apply Kp.drewN) | (with_reducible refine Kp.setCell ?_ (by first | (dsimp only; omega) | (simp; omega) | (simp; done) | (simp [size_ext_eq]; omega)) _))))).mono ?_) | (with_reducible refine (H2.out _ (by repeat (first | (with_reducible exact Kp.refl _) | (with_reducible assumption) | (with_reducible apply Kp.ext) | (with_reducible apply Kp.alloc) | (with_reducible apply Kp.drew) | (with_reducible apply Kp.drewN) | (with_reducible refine Kp.setCell ?_ (by first | (dsimp only; omega) | (simp; omega) | (simp; done) | (simp [size_ext_eq]; omega)) _)))).mono ?_)); rintro e w' ⟨rfl, u, rfl⟩) | (go_at_call 7; (first | (with_reducible refine (Ret.at_ext (H3.out _ (by repeat (first | (with_reducible exact Kp.refl _) | (with_reducible assumption) | (with_reducible apply Kp.ext) | (with_reducible apply Kp.alloc) | (with_reducible apply Kp.drew) | (with_reducible apply Kp.drewN) | (with_reducible refine Kp.setCell ?_ (by first | (dsimp only; omega) | (simp; omega) | (simp; done) | (simp [size_ext_eq]; omega)) _))))).mono ?_) | (with_reducible refine (H3.out _ (by repeat (first | (with_reducible exact Kp.refl _) | (with_reducible assumption) | (with_reducible apply Kp.ext) | (with_reducible apply Kp.alloc) | (with_reducible apply Kp.drew) | (with_reducible apply Kp.drewN) | (with_reducible refine Kp.setCell ?_ (by first | (dsimp only; omega) | (simp; omega) | (simp; done) | (simp [size_ext_eq]; omega)) _)))).mono ?_)); rintro e w' ⟨rfl, u, rfl⟩) | (go_at_call 9; (first | (with_reducible refine (Ret.at_ext (shapes_c _)).mono ?_) | (with_reducible refine (shapes_c _).mono ?_)); rintro e w' ⟨rfl, u, rfl⟩))
        go_ret
        exact Ret.mk rfl (by repeat (first | (with_reducible exact Kp.refl _) | (with_reducible assumption) | (with_reducible apply Kp.ext) | (with_reducible apply Kp.alloc) | (with_reducible apply Kp.drew) | (with_reducible apply Kp.drewN) | (with_reducible refine Kp.setCell ?_ (by first | (dsimp only; omega) | (simp; omega) | (simp; done) | (simp [size_ext_eq]; omega)) _)))
      · rw [f3] at H3
        by_cases hpos : 0 < ps.length
        · have he1 : e1 = false := by
            cases e1
            · rfl
            · exact (hE rfl hpos).elim
          have he2 : e2 = true := by rw [he1] at f3; simpa using f3
          obtain ⟨⟨x0, y0⟩, h0⟩ : ∃ q, ps[0]'hpos = q := ⟨_, rfl⟩
          obtain ⟨q1, q2, q3, q4⟩ := hA he2 x0 y0 hpos h0
          have HB := Lib.hid (hB he2)
          have HX := Lib.hid (fun (g cap : Nat) w' (hg : g < w'.heap.size) (hp : PtsAt w' g 0 ps) => boxOf_c g 0 cap x0 y0 ps hpos h0 w' hg (by omega) hp)
          generalize lowF (x0, y0) ps = lo at *
          generalize highF (x0, y0) ps = hi at *
          obtain ⟨l1, l2⟩ := lo
          obtain ⟨r1, r2⟩ := hi
          dsimp only at q1 q2 q3 q4 HX
          have k1 := fun w => run_eql_pt B.ax B.ay l1 l2 w
          have k2 := fun w => run_eql_pt B.bx B.b_y r1 r2 w
          rw [q1, q2] at k1
          rw [q3, q4] at k2
          have z1 : (ps.length = 0) = False := eq_false (by omega)
          have z2 : ((ps.length : Int) == 0) = false := beq_eq_false_iff_ne.2 (by omega)
          clear hlen hB hA hE f3 he1 he2 h0 hpos q1 q2 q3 q4
          go_enter Try.func3, Try.ntmps3
          go_wp2_with (first | (go_at_call 5; (first | (with_reducible refine (Ret.at_ext (H1.out _ (by repeat (first | (with_reducible exact Kp.refl _) | (with_reducible assumption) | (with_reducible apply Kp.ext) | (with_reducible apply Kp.alloc) | (with_reducible apply Kp.drew) | (with_reducible apply Kp.drewN) | (with_reducible refine Kp.setCell ?_ (by first | (dsimp only; omega) | (simp; omega) | (simp; done) | (simp [size_ext_eq]; omega)) _))))).mono ?_) | (with_reducible refine (H1.out _ (by repeat (first | (with_reducible exact Kp.refl _) | (with_reducible assumption) | (with_reducible apply Kp.ext) | (with_reducible apply Kp.alloc) | (with_reducible apply Kp.drew) | (with_reducible apply Kp.drewN) | (with_reducible refine Kp.setCell ?_ (by first | (dsimp only; omega) | (simp; omega) | (simp; done) | (simp [size_ext_eq]; omega)) _)))).mono ?_)); rintro e w' ⟨rfl, u, rfl⟩) | (go_at_call 6; (first | (with_reducible refine (Ret.at_ext (H2.out _ (by repeat (first | (with_reducible exact Kp.refl _) | (with_reducible assumption) | (with_reducible apply Kp.ext) | (with_reducible apply Kp.alloc) | (with_reducible apply Kp.drew) | (with_reducible apply Kp.drewN) | (with_reducible refine Kp.setCell ?_ (by first | (dsimp only; omega) | (simp; omega) | (simp; done) | (simp [size_ext_eq]; omega)) _))))).mono ?_) | (with_reducible refine (H2.out _ (by repeat (first | (with_reducible exact Kp.refl _) | (with_reducible assumption) | (with_reducible apply Kp.ext) | (with_reducible apply Kp.alloc) | (with_reducible apply Kp.drew) | (with_reducible apply Kp.drewN) | (with_reducible refine Kp.setCell ?_ (by first | (dsimp only; omega) | (simp; omega) | (simp; done) | (simp [size_ext_eq]; omega)) _)))).mono ?_)); rintro e w' ⟨rfl, u, rfl⟩) | (go_at_call 7; (first | (with_reducible refine (Ret.at_ext (H3.out _ (by repeat (first | (with_reducible exact Kp.refl _) | (with_reducible assumption) | (with_reducible apply Kp.ext) | (with_reducible apply Kp.alloc) | (with_reducible apply Kp.drew) | (with_reducible apply Kp.drewN) | (with_reducible refine Kp.setCell ?_ (by first | (dsimp only; omega) | (simp; omega) | (simp; done) | (simp [size_ext_eq]; omega)) _))))).mono ?_) | (with_reducible refine (H3.out _ (by repeat (first | (with_reducible exact Kp.refl _) | (with_reducible assumption) | (with_reducible apply Kp.ext) | (with_reducible apply Kp.alloc) | (with_reducible apply Kp.drew) | (with_reducible apply Kp.drewN) | (with_reducible refine Kp.setCell ?_ (by first | (dsimp only; omega) | (simp; omega) | (simp; done) | (simp [size_ext_eq]; omega)) _)))).mono ?_)); rintro e w' ⟨rfl, u, rfl⟩) | (go_at_call 9; (first | (with_reducible refine (Ret.at_ext (shapes_c _)).mono ?_) | (with_reducible refine (shapes_c _).mono ?_)); rintro e w' ⟨rfl, u, rfl⟩) | (go_at_call 10; (first | (with_reducible refine (Ret.at_ext (HB.out _ (by repeat (first | (with_reducible exact Kp.refl _) | (with_reducible assumption) | (with_reducible apply Kp.ext) | (with_reducible apply Kp.alloc) | (with_reducible apply Kp.drew) | (with_reducible apply Kp.drewN) | (with_reducible refine Kp.setCell ?_ (by first | (dsimp only; omega) | (simp; omega) | (simp; done) | (simp [size_ext_eq]; omega)) _))))).mono ?_) | (with_reducible refine (HB.out _ (by repeat (first | (with_reducible exact Kp.refl _) | (with_reducible assumption) | (with_reducible apply Kp.ext) | (with_reducible apply Kp.alloc) | (with_reducible apply Kp.drew) | (with_reducible apply Kp.drewN) | (with_reducible refine Kp.setCell ?_ (by first | (dsimp only; omega) | (simp; omega) | (simp; done) | (simp [size_ext_eq]; omega)) _)))).mono ?_)); rintro e w' ⟨rfl, u, rfl⟩) | (go_at_call 8; (with_reducible refine (HO.out _ (by repeat (first | (with_reducible exact Kp.refl _) | (with_reducible assumption) | (with_reducible apply Kp.ext) | (with_reducible apply Kp.alloc) | (with_reducible apply Kp.drew) | (with_reducible apply Kp.drewN) | (with_reducible refine Kp.setCell ?_ (by first | (dsimp only; omega) | (simp; omega) | (simp; done) | (simp [size_ext_eq]; omega)) _)))).mono ?_); rintro e w1 ⟨v, u, rfl, rfl, hpb⟩; obtain ⟨g2, cap2, rfl, _, _, q3, _, _, q6⟩ := hpb; have Hq := Lib.hid (And.intro q3 q6); clear q3 q6) | (go_at_call 11; (first | (with_reducible refine (Ret.at_ext (HX.out _ _ _ Hq.out.1 Hq.out.2)).mono ?_) | (with_reducible refine (HX.out _ _ _ Hq.out.1 Hq.out.2).mono ?_)); rintro e w' ⟨rfl, u, rfl⟩))
          go_ret
          exact Ret.mk rfl (by repeat (first | (with_reducible exact Kp.refl _) | (with_reducible assumption) | (with_reducible apply Kp.ext) | (with_reducible apply Kp.alloc) | (with_reducible apply Kp.drew) | (with_reducible apply Kp.drewN) | (with_reducible refine Kp.setCell ?_ (by first | (dsimp only; omega) | (simp; omega) | (simp; done) | (simp [size_ext_eq]; omega)) _)))
        · have z0 : ps.length = 0 := by omega
          have Z := Lib.hid z0
          clear hlen hB hA hE f3 hpos z0
          go_enter Try.func3, Try.ntmps3
          go_wp2_with (first | (go_at_call 5; (first | (with_reducible refine (Ret.at_ext (H1.out _ (by repeat (first | (with_reducible exact Kp.refl _) | (with_reducible assumption) | (with_reducible apply Kp.ext) | (with_reducible apply Kp.alloc) | (with_reducible apply Kp.drew) | (with_reducible apply Kp.drewN) | (with_reducible refine Kp.setCell ?_ (by first | (dsimp only; omega) | (simp; omega) | (simp; done) | (simp [size_ext_eq]; omega)) _))))).mono ?_) | (with_reducible refine (H1.out _ (by repeat (first | (with_reducible exact Kp.refl _) | (with_reducible assumption) | (with_reducible apply Kp.ext) | (with_reducible apply Kp.alloc) | (with_reducible apply Kp.drew) | (with_reducible apply Kp.drewN) | (with_reducible refine Kp.setCell ?_ (by first | (dsimp only; omega) | (simp; omega) | (simp; done) | (simp [size_ext_eq]; omega)) _)))).mono ?_)); rintro e w' ⟨rfl, u, rfl⟩) | (go_at_call 6; (first | (with_reducible refine (Ret.at_ext (H2.out _ (by repeat (first | (with_reducible exact Kp.refl _) | (with_reducible assumption) | (with_reducible apply Kp.ext) | (with_reducible apply Kp.alloc) | (with_reducible apply Kp.drew) | (with_reducible apply Kp.drewN) | (with_reducible refine Kp.setCell ?_ (by first | (dsimp only; omega) | (simp; omega) | (simp; done) | (simp [size_ext_eq]; omega)) _))))).mono ?_) | (with_reducible refine (H2.out _ (by repeat (first | (with_reducible exact Kp.refl _) | (with_reducible assumption) | (with_reducible apply Kp.ext) | (with_reducible apply Kp.alloc) | (with_reducible apply Kp.drew) | (with_reducible apply Kp.drewN) | (with_reducible refine Kp.setCell ?_ (by first | (dsimp only; omega) | (simp; omega) | (simp; done) | (simp [size_ext_eq]; omega)) _)))).mono ?_)); rintro e w' ⟨rfl, u, rfl⟩) | (go_at_call 7; (first | (with_reducible refine (Ret.at_ext (H3.out _ (by repeat (first | (with_reducible exact Kp.refl _) | (with_reducible assumption) | (with_reducible apply Kp.ext) | (with_reducible apply Kp.alloc) | (with_reducible apply Kp.drew) | (with_reducible apply Kp.drewN) | (with_reducible refine Kp.setCell ?_ (by first | (dsimp only; omega) | (simp; omega) | (simp; done) | (simp [size_ext_eq]; omega)) _))))).mono ?_) | (with_reducible refine (H3.out _ (by repeat (first | (with_reducible exact Kp.refl _) | (with_reducible assumption) | (with_reducible apply Kp.ext) | (with_reducible apply Kp.alloc) | (with_reducible apply Kp.drew) | (with_reducible apply Kp.drewN) | (with_reducible refine Kp.setCell ?_ (by first | (dsimp only; omega) | (simp; omega) | (simp; done) | (simp [size_ext_eq]; omega)) _)))).mono ?_)); rintro e w' ⟨rfl, u, rfl⟩) | (go_at_call 9; (first | (with_reducible refine (Ret.at_ext (shapes_c _)).mono ?_) | (with_reducible refine (shapes_c _).mono ?_)); rintro e w' ⟨rfl, u, rfl⟩) | (go_at_call 8; (with_reducible refine (HO.out _ (by repeat (first | (with_reducible exact Kp.refl _) | (with_reducible assumption) | (with_reducible apply Kp.ext) | (with_reducible apply Kp.alloc) | (with_reducible apply Kp.drew) | (with_reducible apply Kp.drewN) | (with_reducible refine Kp.setCell ?_ (by first | (dsimp only; omega) | (simp; omega) | (simp; done) | (simp [size_ext_eq]; omega)) _)))).mono ?_); rintro e w1 ⟨v, u, rfl, rfl, hpb⟩; obtain ⟨g2, cap2, rfl, _⟩ := hpb; rw [Z.out]))
          go_ret
          exact Ret.mk rfl (by repeat (first | (with_reducible exact Kp.refl _) | (with_reducible assumption) | (with_reducible apply Kp.ext) | (with_reducible apply Kp.alloc) | (with_reducible apply Kp.drew) | (with_reducible apply Kp.drewN) | (with_reducible refine Kp.setCell ?_ (by first | (dsimp only; omega) | (simp; omega) | (simp; done) | (simp [size_ext_eq]; omega)) _)))
end Go.Proofs.Ytciaeknfgdckbaa
