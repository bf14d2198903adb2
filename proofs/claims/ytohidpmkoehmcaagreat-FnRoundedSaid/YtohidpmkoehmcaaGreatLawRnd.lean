/-
  laws.FnRounded, walked: it answers true.
-/
import Derived.Test.YtohidpmkoehmcaaGreatRndP
import Derived.Test.YtohidpmkoehmcaaGreatSame
import Derived.Test.YtohidpmkoehmcaaGreatShapes
import Derived.Deep.RegionHeld3
namespace Go.Proofs.YtohidpmkoehmcaaGreat
open PubFl Go.RowKit

attribute [local go_sem] cell_ext frozen_ext ext_setCell cell_store size_ext_eq lt_p0 lt_p1 lt_p2 lt_p3 lt_p4 lt_p5 lt_p6 lt_p7 lt_p8 lt_p9 lt_p10 lt_p11 lt_p12 lt_p13 lt_p14 lt_p15 lt_p16 lt_p17 lt_p18 lt_p19 lt_p20 lt_p21 lt_p22 lt_p23 lt_p24 lt_p25 lt_p26 lt_p27 lt_p28 lt_p29 lt_p30 lt_p31 lt_p32 lt_q1 lt_q2 lt_q3 lt_q4 lt_q5 lt_q6 lt_q7 lt_q8 lt_q9 lt_q10 lt_q11 lt_q12 lt_q13 lt_q14 lt_q15 lt_q16 lt_q17 lt_q18 lt_q19 lt_q20 lt_q21 lt_q22 lt_q23 lt_q24 lt_q25 lt_q26 lt_q27 lt_q28 lt_q29 lt_q30 lt_q31 lt_q32 run_fop run_store_float
attribute [local go_sem high] cmp_eql cmp_neq cmp_lss cmp_leq cmp_gtr cmp_geq
attribute [local irreducible] rdF goodB canB

set_option maxRecDepth 100000 in
set_option maxHeartbeats 4000000 in
theorem lawRnd_no (s : Sh) (lv pv : Value) (more : Bool) (w : World) (hs : ShIn 4 w lv pv s) (hno : (fitsB s && whShB s) = false) :
    Calls Tryz.prog 3 #[.agg #[.int .i64 s.kind, lv, pv], .bool more] w (Ret w (.bool true)) := by
  have hF := fun w' (hk : Kp w w') => fits1_c 3 s lv pv w' (hs.kp hk)
  have hI := fun w' (hk : Kp w w') => whShape_c s lv pv w' (hs.kp hk)
  obtain ⟨⟨p1, n1, c1, rfl⟩, p2, n2, c2, rfl⟩ := hs.form
  obtain ⟨k, hk⟩ : ∃ k, s.kind = k := ⟨_, rfl⟩
  rw [hk] at hF hI
  rw [hk]
  have H1 := Lib.hid hF
  have H2 := Lib.hid hI
  clear hF hI hs hk
  cases f1 : fitsB s
  · rw [f1] at H1
    clear H2 f1 hno
    go_enter Tryz.func3, Tryz.ntmps3
    go_wp2_with (go_at_call 4; (first | (with_reducible refine (Ret.at_ext (H1.out _ (by repeat (first | (with_reducible exact Kp.refl _) | (with_reducible assumption) | (with_reducible apply Kp.ext) | (with_reducible apply Kp.alloc) | (with_reducible apply Kp.drew) | (with_reducible apply Kp.drewN) | (with_reducible refine Kp.setCell ?_ (by first | (dsimp only; omega) | (simp; omega) | (simp; done) | (simp [size_ext_eq]; omega)) _))))).mono ?_) | (with_reducible refine (H1.out _ (by repeat (first | (with_reducible exact Kp.refl _) | (with_reducible assumption) | (with_reducible apply Kp.ext) | (with_reducible apply Kp.alloc) | (with_reducible apply Kp.drew) | (with_reducible apply Kp.drewN) | (with_reducible refine Kp.setCell ?_ (by first | (dsimp only; omega) | (simp; omega) | (simp; done) | (simp [size_ext_eq]; omega)) _)))).mono ?_)); rintro e w' ⟨rfl, u, rfl⟩)
    go_ret
    exact Ret.mk rfl (by repeat (first | (with_reducible exact Kp.refl _) | (with_reducible assumption) | (with_reducible apply Kp.ext) | (with_reducible apply Kp.alloc) | (with_reducible apply Kp.drew) | (with_reducible apply Kp.drewN) | (with_reducible refine Kp.setCell ?_ (by first | (dsimp only; omega) | (simp; omega) | (simp; done) | (simp [size_ext_eq]; omega)) _)))
  · rw [f1] at H1 hno
    rw [Bool.true_and] at hno
    rw [hno] at H2
    clear hno f1
    go_enter Tryz.func3, Tryz.ntmps3
    go_wp2_with (first | (go_at_call 4; (first | (with_reducible refine (Ret.at_ext (H1.out _ (by repeat (first | (with_reducible exact Kp.refl _) | (with_reducible assumption) | (with_reducible apply Kp.ext) | (with_reducible apply Kp.alloc) | (with_reducible apply Kp.drew) | (with_reducible apply Kp.drewN) | (with_reducible refine Kp.setCell ?_ (by first | (dsimp only; omega) | (simp; omega) | (simp; done) | (simp [size_ext_eq]; omega)) _))))).mono ?_) | (with_reducible refine (H1.out _ (by repeat (first | (with_reducible exact Kp.refl _) | (with_reducible assumption) | (with_reducible apply Kp.ext) | (with_reducible apply Kp.alloc) | (with_reducible apply Kp.drew) | (with_reducible apply Kp.drewN) | (with_reducible refine Kp.setCell ?_ (by first | (dsimp only; omega) | (simp; omega) | (simp; done) | (simp [size_ext_eq]; omega)) _)))).mono ?_)); rintro e w' ⟨rfl, u, rfl⟩) | (go_at_call 5; (first | (with_reducible refine (Ret.at_ext (H2.out _ (by repeat (first | (with_reducible exact Kp.refl _) | (with_reducible assumption) | (with_reducible apply Kp.ext) | (with_reducible apply Kp.alloc) | (with_reducible apply Kp.drew) | (with_reducible apply Kp.drewN) | (with_reducible refine Kp.setCell ?_ (by first | (dsimp only; omega) | (simp; omega) | (simp; done) | (simp [size_ext_eq]; omega)) _))))).mono ?_) | (with_reducible refine (H2.out _ (by repeat (first | (with_reducible exact Kp.refl _) | (with_reducible assumption) | (with_reducible apply Kp.ext) | (with_reducible apply Kp.alloc) | (with_reducible apply Kp.drew) | (with_reducible apply Kp.drewN) | (with_reducible refine Kp.setCell ?_ (by first | (dsimp only; omega) | (simp; omega) | (simp; done) | (simp [size_ext_eq]; omega)) _)))).mono ?_)); rintro e w' ⟨rfl, u, rfl⟩) | (go_at_call 6; (first | (with_reducible refine (Ret.at_ext (shapes_c _)).mono ?_) | (with_reducible refine (shapes_c _).mono ?_)); rintro e w' ⟨rfl, u, rfl⟩))
    go_ret
    exact Ret.mk rfl (by repeat (first | (with_reducible exact Kp.refl _) | (with_reducible assumption) | (with_reducible apply Kp.ext) | (with_reducible apply Kp.alloc) | (with_reducible apply Kp.drew) | (with_reducible apply Kp.drewN) | (with_reducible refine Kp.setCell ?_ (by first | (dsimp only; omega) | (simp; omega) | (simp; done) | (simp [size_ext_eq]; omega)) _)))

theorem BoxS.at {w : World} {g : Nat} (h : g = w.heap.size) (a b c : Value) (t : TypeId) : BoxS (w.alloc (.cells #[a, b, c] t)) g a b c := BoxS.new h a b c t
theorem BoxS.alloc {w : World} {g : Nat} {a b c : Value} (h : BoxS w g a b c) (o : Obj) : BoxS (w.alloc o) g a b c := h.kp ((Kp.refl _).alloc o)
theorem BoxS.ext {w : World} {g : Nat} {a b c : Value} (h : BoxS w g a b c) (u : World) : BoxS (ext w u) g a b c := h.kp ((Kp.refl _).ext u)
theorem BoxS.drew {w : World} {g : Nat} {a b c : Value} (h : BoxS w g a b c) : BoxS w.drew g a b c := h.kp (Kp.refl _).drew
theorem BoxS.drewN {w : World} {g : Nat} {a b c : Value} (h : BoxS w g a b c) (n : Nat) : BoxS (w.drewN n) g a b c := h.kp ((Kp.refl _).drewN n)
theorem Agree.re {w w' u : World} (hs : w.heap.size = w'.heap.size) : Agree w.heap.size (ext w u).heap.size (ext w u) (ext w' u) := fun b h1 _ => by
  rw [heap_ext, heap_ext, Array.getElem?_append_right h1, Array.getElem?_append_right (by omega), hs]
theorem ext_same {w w' u : World} (hs : w.heap.size = w'.heap.size) : (ext w u).heap.size = (ext w' u).heap.size := by
  rw [size_ext_eq, size_ext_eq, hs]
theorem agree6 {w : World} {lo hi B N : Nat} (hB : B < lo) (hN : N < lo) (a b c d e f : Value) :
    Agree lo hi w ((((((w.setCell ⟨B, 0, none⟩ a).setCell ⟨B, 1, none⟩ b).setCell ⟨B, 2, none⟩ c).setCell ⟨N, 0, none⟩ d).setCell ⟨N, 1, none⟩ e).setCell ⟨N, 2, none⟩ f) := fun x h1 h2 => by
  rw [Below.heap_setCell _ _ _ _ (by dsimp only; omega), Below.heap_setCell _ _ _ _ (by dsimp only; omega), Below.heap_setCell _ _ _ _ (by dsimp only; omega), Below.heap_setCell _ _ _ _ (by dsimp only; omega), Below.heap_setCell _ _ _ _ (by dsimp only; omega), Below.heap_setCell _ _ _ _ (by dsimp only; omega)]
/-- a shape that a call has made, as an argument -/
theorem ShB.arg {lo hi : Nat} {w w' : World} {lv pv : Value} {s : Sh} {f : Nat × Nat → Nat × Nat} (h : ShB 4 lo hi w lv pv (mapSh f 4 s)) (hb : BitsSh 4 (mapSh f 4 s)) (ok : isShB s = true) (k : Kp w w') (hs : hi ≤ w.heap.size) : ShIn 4 w' lv pv (mapSh f 4 s) :=
  ShB.shIn (ShB.keep h (Agree.of_kp k hs) k.size) hb (isSh_facts (mapSh_isSh ok)).1 (isSh_facts (mapSh_isSh ok)).2
theorem ShB.argE {w0 w1 u w' : World} {lv pv : Value} {s : Sh} {f : Nat × Nat → Nat × Nat} (h : ShB 4 w0.heap.size (ext w0 u).heap.size (ext w0 u) lv pv (mapSh f 4 s)) (hb : BitsSh 4 (mapSh f 4 s)) (ok : isShB s = true) (k : Kp (ext w1 u) w') (hs : w0.heap.size = w1.heap.size) : ShIn 4 w' lv pv (mapSh f 4 s) :=
  ShB.arg (ShB.keep h (Agree.re hs) (Nat.le_of_eq (ext_same hs))) hb ok k (Nat.le_of_eq (ext_same hs))

set_option maxRecDepth 100000 in
set_option maxHeartbeats 40000000 in
theorem lawRnd_yes (s : Sh) (lv pv : Value) (more : Bool) (w : World) (hs : ShIn 4 w lv pv s) (hf : fitsB s = true) (hw : whShB s = true) :
    Calls Tryz.prog 3 #[.agg #[.int .i64 s.kind, lv, pv], .bool more] w (Ret w (.bool true)) := by
  have hF := fun w' (hk : Kp w w') => fits1_c 3 s lv pv w' (hs.kp hk)
  have hI := fun w' (hk : Kp w w') => whShape_c s lv pv w' (hs.kp hk)
  have R := rnd_facts hs.bits hw
  have hC : ∀ w', Kp w w' → Calls Tryz.prog 7 #[.agg #[.int .i64 s.kind, lv, pv], .float .f64 4598175219545276416] w' (RetSh 4 (mapSh (addP quarterF) 4 s) w') := fun w' (hk : Kp w w') => changed_c 4 s quarterF lv pv w' (hs.kp hk) (isSh_facts R.ok).1 (isSh_facts R.ok).2 R.a1
  have hin := hs
  obtain ⟨⟨p1, n1, c1, rfl⟩, p2, n2, c2, rfl⟩ := hs.form
  obtain ⟨k, hk⟩ : ∃ k, s.kind = k := ⟨_, rfl⟩
  rw [hk] at hF hI hC
  rw [hk]
  rw [hf] at hF
  rw [hw] at hI
  unfold RetSh at hC
  rw [mapSh_kind, hk] at hC
  have H1 := Lib.hid hF
  have H2 := Lib.hid hI
  have HC := Lib.hid hC
  have HR := Lib.hid R
  have Hin := Lib.hid hin
  have Hk := Lib.hid hk
  clear hF hI hs hf hw hC R hk hin
  go_enter Tryz.func3, Tryz.ntmps3
  go_upto_region 5 with (first | (go_at_call 4; (first | (with_reducible refine (Ret.at_ext (H1.out _ (by repeat (first | (with_reducible exact Kp.refl _) | (with_reducible assumption) | (with_reducible apply Kp.ext) | (with_reducible apply Kp.alloc) | (with_reducible apply Kp.drew) | (with_reducible apply Kp.drewN) | (with_reducible refine Kp.setCell ?_ (by first | (dsimp only; omega) | (simp; omega) | (simp; done) | (simp [size_ext_eq]; omega)) _))))).mono ?_) | (with_reducible refine (H1.out _ (by repeat (first | (with_reducible exact Kp.refl _) | (with_reducible assumption) | (with_reducible apply Kp.ext) | (with_reducible apply Kp.alloc) | (with_reducible apply Kp.drew) | (with_reducible apply Kp.drewN) | (with_reducible refine Kp.setCell ?_ (by first | (dsimp only; omega) | (simp; omega) | (simp; done) | (simp [size_ext_eq]; omega)) _)))).mono ?_)); rintro e w' ⟨rfl, u, rfl⟩) | (go_at_call 5; (first | (with_reducible refine (Ret.at_ext (H2.out _ (by repeat (first | (with_reducible exact Kp.refl _) | (with_reducible assumption) | (with_reducible apply Kp.ext) | (with_reducible apply Kp.alloc) | (with_reducible apply Kp.drew) | (with_reducible apply Kp.drewN) | (with_reducible refine Kp.setCell ?_ (by first | (dsimp only; omega) | (simp; omega) | (simp; done) | (simp [size_ext_eq]; omega)) _))))).mono ?_) | (with_reducible refine (H2.out _ (by repeat (first | (with_reducible exact Kp.refl _) | (with_reducible assumption) | (with_reducible apply Kp.ext) | (with_reducible apply Kp.alloc) | (with_reducible apply Kp.drew) | (with_reducible apply Kp.drewN) | (with_reducible refine Kp.setCell ?_ (by first | (dsimp only; omega) | (simp; omega) | (simp; done) | (simp [size_ext_eq]; omega)) _)))).mono ?_)); rintro e w' ⟨rfl, u, rfl⟩))
  go_cut [5, 6] (fun s5 s6 wx => ∃ (B N : Nat) (lv1 pv1 : Value), s5 = .pointer (some ⟨B, 0, none⟩) ∧ s6 = .pointer (some ⟨N, 0, none⟩) ∧ w.heap.size < B ∧ w.heap.size < N ∧ B ≠ N ∧ Kp w wx ∧ BoxS wx w.heap.size (.int .i64 k) (.slice p1 n1 c1) (.slice p2 n2 c2) ∧ BoxS wx B (.int .i64 k) lv1 pv1 ∧ BoxS wx N (.int .i64 k) (.slice p1 n1 c1) (.slice p2 n2 c2) ∧ ShIn 4 wx lv1 pv1 (mapSh (addP quarterF) 4 s))
  case first =>
    go_region_with (first | (go_at_call 7; (with_reducible refine (HC.out _ (by repeat (first | (with_reducible exact Kp.refl _) | (with_reducible assumption) | (with_reducible apply Kp.ext) | (with_reducible apply Kp.alloc) | (with_reducible apply Kp.drew) | (with_reducible apply Kp.drewN) | (with_reducible refine Kp.setCell ?_ (by first | (dsimp only; omega) | (simp; omega) | (simp; done) | (simp [size_ext_eq]; omega)) _)))).mono ?_); rintro e w1 ⟨lv1, pv1, u, rfl, rfl, hsh⟩; obtain ⟨⟨q1, m1, d1, rfl⟩, q2, m2, d2, rfl⟩ := hsh.form; have Hsh := Lib.hid hsh; clear hsh))
    all_goals go_wp2_with fail
    all_goals go_meet
    all_goals
      refine ⟨_, _, .slice q1 m1 d1, .slice q2 m2 d2, rfl, rfl, by omega, by omega, by omega, (by repeat (first | (with_reducible exact Kp.refl _) | (with_reducible assumption) | (with_reducible apply Kp.ext) | (with_reducible apply Kp.alloc) | (with_reducible apply Kp.drew) | (with_reducible apply Kp.drewN) | (with_reducible refine Kp.setCell ?_ (by first | (dsimp only; omega) | (simp; omega) | (simp; done) | (simp [size_ext_eq]; omega)) _))), ?_, ?_, ?_, ?_⟩
      rotate_left 3
      · first | (refine Hsh.out.arg HR.out.b1 HR.out.ok ?_ (Nat.le_refl _); ((repeat (first | (with_reducible exact Kp.refl _) | (with_reducible assumption) | (with_reducible apply Kp.ext) | (with_reducible apply Kp.alloc) | (with_reducible apply Kp.drew) | (with_reducible apply Kp.drewN))); done)) | (refine @ShB.argE _ ?_ _ _ _ _ _ _ Hsh.out HR.out.b1 HR.out.ok ?_ ?_; rotate_left 1; (focus ((repeat (first | (with_reducible exact Kp.refl _) | (with_reducible assumption) | (with_reducible apply Kp.ext) | (with_reducible apply Kp.alloc) | (with_reducible apply Kp.drew) | (with_reducible apply Kp.drewN))); done)); all_goals (simp [size_ext_eq]; done))
      all_goals (repeat (first | ((with_reducible refine BoxS.at ?_ _ _ _ _) <;> (simp [size_ext_eq]; done)) | (with_reducible apply BoxS.alloc) | (with_reducible apply BoxS.drew) | (with_reducible apply BoxS.drewN) | (with_reducible apply BoxS.ext)))
  case rest =>
    obtain ⟨B, N, lv1, pv1, rfl, rfl, hB, hN, hBN, hk, b0, b1, b2, hin1⟩ := hcut
    clear H1 H2 HC
    have R := HR.out
    have hin0 := Hin.out.kp hk
    obtain ⟨⟨q1, m1, d1, rfl⟩, q2, m2, d2, rfl⟩ := hin1.form
    have hkk := Hk.out
    have hR0 : ∀ u0, Calls Tryz.prog 9 #[.agg #[.int .i64 k, .slice p1 n1 c1, .slice p2 n2 c2], .int .i64 1] (ext wc.drew u0) (fun e w1 => ∃ lv pv u, e = .returned (.agg #[.int .i64 k, lv, pv]) ∧ w1 = ext wc.drew u ∧ ShB 4 (ext wc.drew u0).heap.size w1.heap.size w1 lv pv (mapSh rdP 4 s)) := fun u0 => by
      have h := rounded_c s _ _ (ext wc.drew u0) (hin0.kp (show Kp wc _ from (by repeat (first | (with_reducible exact Kp.refl _) | (with_reducible assumption) | (with_reducible apply Kp.ext) | (with_reducible apply Kp.alloc) | (with_reducible apply Kp.drew) | (with_reducible apply Kp.drewN) | (with_reducible refine Kp.setCell ?_ (by first | (dsimp only; omega) | (simp; omega) | (simp; done) | (simp [size_ext_eq]; omega)) _))))) R.ok R.g0
      unfold RetSh at h
      rw [mapSh_kind, hkk] at h
      exact h.mono fun e w1 ⟨lv, pv, u, h1, h2, h3⟩ => ⟨lv, pv, w1, h1, (by subst h2; exact ext_of (((Kp.refl _).ext u0).ext u)), h3⟩
    have hE0 : ∀ lo hi lv' pv' w1 w', ShB 4 lo hi w1 lv' pv' (mapSh rdP 4 s) → Kp w1 w' → hi ≤ w1.heap.size → Kp wc w' → Calls Tryz.prog 8 #[.agg #[.int .i64 k, lv', pv'], .agg #[.int .i64 k, .slice p1 n1 c1, .slice p2 n2 c2]] w' (Ret w' (.bool true)) := fun lo hi lv' pv' w1 w' h k1 hh hq => by
      have h := specEq_c 4 _ _ lv' pv' _ _ w' (h.arg R.r0 R.ok k1 hh) (hin0.kp hq) (isSh_facts (mapSh_isSh R.ok)).1 (isSh_facts R.ok).1
      rw [mapSh_kind, hkk, R.e0] at h
      exact h
    have HR0 := Lib.hid hR0
    have HE0 := Lib.hid hE0
    cases more
    · have ok1 := mapSh_isSh (f := addP quarterF) R.ok
      have hR1 : ∀ u0, Calls Tryz.prog 9 #[.agg #[.int .i64 k, .slice q1 m1 d1, .slice q2 m2 d2], .int .i64 1] (ext wc.drew u0) (fun e w1 => ∃ lv pv u, e = .returned (.agg #[.int .i64 k, lv, pv]) ∧ w1 = ext wc.drew u ∧ ShB 4 (ext wc.drew u0).heap.size w1.heap.size w1 lv pv (mapSh rdP 4 (mapSh (addP quarterF) 4 s))) := fun u0 => by
        have h := rounded_c _ _ _ (ext wc.drew u0) (hin1.kp (show Kp wc _ from (by repeat (first | (with_reducible exact Kp.refl _) | (with_reducible assumption) | (with_reducible apply Kp.ext) | (with_reducible apply Kp.alloc) | (with_reducible apply Kp.drew) | (with_reducible apply Kp.drewN) | (with_reducible refine Kp.setCell ?_ (by first | (dsimp only; omega) | (simp; omega) | (simp; done) | (simp [size_ext_eq]; omega)) _))))) ok1 R.g1
        unfold RetSh at h
        rw [mapSh_kind, mapSh_kind, mapSh_kind, hkk] at h
        exact h.mono fun e w1 ⟨lv, pv, u, h1, h2, h3⟩ => ⟨lv, pv, w1, h1, (by subst h2; exact ext_of (((Kp.refl _).ext u0).ext u)), h3⟩
      have hE1 : ∀ lo hi lv' pv' w1 w', ShB 4 lo hi w1 lv' pv' (mapSh rdP 4 (mapSh (addP quarterF) 4 s)) → Kp w1 w' → hi ≤ w1.heap.size → Kp wc w' → Calls Tryz.prog 8 #[.agg #[.int .i64 k, lv', pv'], .agg #[.int .i64 k, .slice p1 n1 c1, .slice p2 n2 c2]] w' (Ret w' (.bool true)) := fun lo hi lv' pv' w1 w' h k1 hh hq => by
        have h := specEq_c 4 _ _ lv' pv' _ _ w' (h.arg R.r1 ok1 k1 hh) (hin0.kp hq) (isSh_facts (mapSh_isSh ok1)).1 (isSh_facts R.ok).1
        rw [mapSh_kind, mapSh_kind, hkk, R.e1] at h
        exact h
      have HR1 := Lib.hid hR1
      have HE1 := Lib.hid hE1
      clear R hin0 hin1 hR0 hE0 hR1 hE1 hkk ok1
      have x0 : ∀ u, (ext wc.drew u).cell? ⟨w.heap.size, 0, none⟩ = some (.int .i64 k) := fun u => (b0.kp (show Kp wc _ from (by repeat (first | (with_reducible exact Kp.refl _) | (with_reducible assumption) | (with_reducible apply Kp.ext) | (with_reducible apply Kp.alloc) | (with_reducible apply Kp.drew) | (with_reducible apply Kp.drewN) | (with_reducible refine Kp.setCell ?_ (by first | (dsimp only; omega) | (simp; omega) | (simp; done) | (simp [size_ext_eq]; omega)) _))))).c0
      have x1 : ∀ u, (ext wc.drew u).cell? ⟨w.heap.size, 1, none⟩ = some (.slice p1 n1 c1) := fun u => (b0.kp (show Kp wc _ from (by repeat (first | (with_reducible exact Kp.refl _) | (with_reducible assumption) | (with_reducible apply Kp.ext) | (with_reducible apply Kp.alloc) | (with_reducible apply Kp.drew) | (with_reducible apply Kp.drewN) | (with_reducible refine Kp.setCell ?_ (by first | (dsimp only; omega) | (simp; omega) | (simp; done) | (simp [size_ext_eq]; omega)) _))))).c1
      have x2 : ∀ u, (ext wc.drew u).cell? ⟨w.heap.size, 2, none⟩ = some (.slice p2 n2 c2) := fun u => (b0.kp (show Kp wc _ from (by repeat (first | (with_reducible exact Kp.refl _) | (with_reducible assumption) | (with_reducible apply Kp.ext) | (with_reducible apply Kp.alloc) | (with_reducible apply Kp.drew) | (with_reducible apply Kp.drewN) | (with_reducible refine Kp.setCell ?_ (by first | (dsimp only; omega) | (simp; omega) | (simp; done) | (simp [size_ext_eq]; omega)) _))))).c2
      have y0 : ∀ u, (ext wc.drew u).cell? ⟨B, 0, none⟩ = some (.int .i64 k) := fun u => (b1.kp (show Kp wc _ from (by repeat (first | (with_reducible exact Kp.refl _) | (with_reducible assumption) | (with_reducible apply Kp.ext) | (with_reducible apply Kp.alloc) | (with_reducible apply Kp.drew) | (with_reducible apply Kp.drewN) | (with_reducible refine Kp.setCell ?_ (by first | (dsimp only; omega) | (simp; omega) | (simp; done) | (simp [size_ext_eq]; omega)) _))))).c0
      have y1 : ∀ u, (ext wc.drew u).cell? ⟨B, 1, none⟩ = some (.slice q1 m1 d1) := fun u => (b1.kp (show Kp wc _ from (by repeat (first | (with_reducible exact Kp.refl _) | (with_reducible assumption) | (with_reducible apply Kp.ext) | (with_reducible apply Kp.alloc) | (with_reducible apply Kp.drew) | (with_reducible apply Kp.drewN) | (with_reducible refine Kp.setCell ?_ (by first | (dsimp only; omega) | (simp; omega) | (simp; done) | (simp [size_ext_eq]; omega)) _))))).c1
      have y2 : ∀ u, (ext wc.drew u).cell? ⟨B, 2, none⟩ = some (.slice q2 m2 d2) := fun u => (b1.kp (show Kp wc _ from (by repeat (first | (with_reducible exact Kp.refl _) | (with_reducible assumption) | (with_reducible apply Kp.ext) | (with_reducible apply Kp.alloc) | (with_reducible apply Kp.drew) | (with_reducible apply Kp.drewN) | (with_reducible refine Kp.setCell ?_ (by first | (dsimp only; omega) | (simp; omega) | (simp; done) | (simp [size_ext_eq]; omega)) _))))).c2
      have z0 : ∀ u, (ext wc.drew u).cell? ⟨N, 0, none⟩ = some (.int .i64 k) := fun u => (b2.kp (show Kp wc _ from (by repeat (first | (with_reducible exact Kp.refl _) | (with_reducible assumption) | (with_reducible apply Kp.ext) | (with_reducible apply Kp.alloc) | (with_reducible apply Kp.drew) | (with_reducible apply Kp.drewN) | (with_reducible refine Kp.setCell ?_ (by first | (dsimp only; omega) | (simp; omega) | (simp; done) | (simp [size_ext_eq]; omega)) _))))).c0
      have z1 : ∀ u, (ext wc.drew u).cell? ⟨N, 1, none⟩ = some (.slice p1 n1 c1) := fun u => (b2.kp (show Kp wc _ from (by repeat (first | (with_reducible exact Kp.refl _) | (with_reducible assumption) | (with_reducible apply Kp.ext) | (with_reducible apply Kp.alloc) | (with_reducible apply Kp.drew) | (with_reducible apply Kp.drewN) | (with_reducible refine Kp.setCell ?_ (by first | (dsimp only; omega) | (simp; omega) | (simp; done) | (simp [size_ext_eq]; omega)) _))))).c1
      have z2 : ∀ u, (ext wc.drew u).cell? ⟨N, 2, none⟩ = some (.slice p2 n2 c2) := fun u => (b2.kp (show Kp wc _ from (by repeat (first | (with_reducible exact Kp.refl _) | (with_reducible assumption) | (with_reducible apply Kp.ext) | (with_reducible apply Kp.alloc) | (with_reducible apply Kp.drew) | (with_reducible apply Kp.drewN) | (with_reducible refine Kp.setCell ?_ (by first | (dsimp only; omega) | (simp; omega) | (simp; done) | (simp [size_ext_eq]; omega)) _))))).c2
      obtain ⟨_, x4, x5, x6, _⟩ := b0
      obtain ⟨_, y4, y5, y6, _⟩ := b1
      obtain ⟨_, z4, z5, z6, _⟩ := b2
      go_upto_region 8 with fail
      go_region_with (first | (go_at_call 6; (first | (with_reducible refine (Ret.at_ext (shapes_c _)).mono ?_) | (with_reducible refine (shapes_c _).mono ?_)); rintro e w' ⟨rfl, u, rfl⟩) | (go_at_call 9; (with_reducible refine (HR0.out _).mono ?_); rintro e w1 ⟨lv0, pv0, u, rfl, rfl, hsh⟩; have Hs0 := Lib.hid hsh; clear hsh) | (go_at_call 9; (with_reducible refine (HR1.out _).mono ?_); rintro e w1 ⟨lv3, pv3, u, rfl, rfl, hsh⟩; have Hs1 := Lib.hid hsh; clear hsh) | (go_at_call 8; (first | (with_reducible refine (Ret.at_ext (HE1.out _ _ _ _ _ _ Hs1.out (by repeat (first | (with_reducible exact Kp.refl _) | (with_reducible assumption) | (with_reducible apply Kp.ext) | (with_reducible apply Kp.alloc) | (with_reducible apply Kp.drew) | (with_reducible apply Kp.drewN) | (with_reducible refine Kp.setCell ?_ (by first | (dsimp only; omega) | (simp; omega) | (simp; done) | (simp [size_ext_eq]; omega)) _))) (Nat.le_refl _) (by repeat (first | (with_reducible exact Kp.refl _) | (with_reducible assumption) | (with_reducible apply Kp.ext) | (with_reducible apply Kp.alloc) | (with_reducible apply Kp.drew) | (with_reducible apply Kp.drewN) | (with_reducible refine Kp.setCell ?_ (by first | (dsimp only; omega) | (simp; omega) | (simp; done) | (simp [size_ext_eq]; omega)) _))))).mono ?_) | (with_reducible refine (HE1.out _ _ _ _ _ _ Hs1.out (by repeat (first | (with_reducible exact Kp.refl _) | (with_reducible assumption) | (with_reducible apply Kp.ext) | (with_reducible apply Kp.alloc) | (with_reducible apply Kp.drew) | (with_reducible apply Kp.drewN) | (with_reducible refine Kp.setCell ?_ (by first | (dsimp only; omega) | (simp; omega) | (simp; done) | (simp [size_ext_eq]; omega)) _))) (Nat.le_refl _) (by repeat (first | (with_reducible exact Kp.refl _) | (with_reducible assumption) | (with_reducible apply Kp.ext) | (with_reducible apply Kp.alloc) | (with_reducible apply Kp.drew) | (with_reducible apply Kp.drewN) | (with_reducible refine Kp.setCell ?_ (by first | (dsimp only; omega) | (simp; omega) | (simp; done) | (simp [size_ext_eq]; omega)) _)))).mono ?_)); rintro e w' ⟨rfl, u, rfl⟩) | (go_at_call 8; (first | (with_reducible refine (Ret.at_ext (HE0.out _ _ _ _ _ _ Hs0.out (by repeat (first | (with_reducible exact Kp.refl _) | (with_reducible assumption) | (with_reducible apply Kp.ext) | (with_reducible apply Kp.alloc) | (with_reducible apply Kp.drew) | (with_reducible apply Kp.drewN) | (with_reducible refine Kp.setCell ?_ (by first | (dsimp only; omega) | (simp; omega) | (simp; done) | (simp [size_ext_eq]; omega)) _))) (Nat.le_refl _) (by repeat (first | (with_reducible exact Kp.refl _) | (with_reducible assumption) | (with_reducible apply Kp.ext) | (with_reducible apply Kp.alloc) | (with_reducible apply Kp.drew) | (with_reducible apply Kp.drewN) | (with_reducible refine Kp.setCell ?_ (by first | (dsimp only; omega) | (simp; omega) | (simp; done) | (simp [size_ext_eq]; omega)) _))))).mono ?_) | (with_reducible refine (HE0.out _ _ _ _ _ _ Hs0.out (by repeat (first | (with_reducible exact Kp.refl _) | (with_reducible assumption) | (with_reducible apply Kp.ext) | (with_reducible apply Kp.alloc) | (with_reducible apply Kp.drew) | (with_reducible apply Kp.drewN) | (with_reducible refine Kp.setCell ?_ (by first | (dsimp only; omega) | (simp; omega) | (simp; done) | (simp [size_ext_eq]; omega)) _))) (Nat.le_refl _) (by repeat (first | (with_reducible exact Kp.refl _) | (with_reducible assumption) | (with_reducible apply Kp.ext) | (with_reducible apply Kp.alloc) | (with_reducible apply Kp.drew) | (with_reducible apply Kp.drewN) | (with_reducible refine Kp.setCell ?_ (by first | (dsimp only; omega) | (simp; omega) | (simp; done) | (simp [size_ext_eq]; omega)) _)))).mono ?_)); rintro e w' ⟨rfl, u, rfl⟩))
      all_goals go_wp2_with fail
      all_goals (go_ret; exact Ret.mk rfl (by repeat (first | (with_reducible exact Kp.refl _) | (with_reducible assumption) | (with_reducible apply Kp.ext) | (with_reducible apply Kp.alloc) | (with_reducible apply Kp.drew) | (with_reducible apply Kp.drewN) | (with_reducible refine Kp.setCell ?_ (by first | (dsimp only; omega) | (simp; omega) | (simp; done) | (simp [size_ext_eq]; omega)) _))))
    · clear HR0 HE0 hR0 hE0 hin1
      have hC2 : Calls Tryz.prog 7 #[.agg #[.int .i64 k, .slice p1 n1 c1, .slice p2 n2 c2], .float .f64 4604930618986332160] wc.drew (fun e w1 => ∃ lv pv u, e = .returned (.agg #[.int .i64 k, lv, pv]) ∧ w1 = ext wc.drew u ∧ ShB 4 wc.drew.heap.size w1.heap.size w1 lv pv (mapSh (addP threeF) 4 s)) := by
        have h := changed_c 4 s threeF _ _ wc.drew (hin0.kp (show Kp wc _ from (by repeat (first | (with_reducible exact Kp.refl _) | (with_reducible assumption) | (with_reducible apply Kp.ext) | (with_reducible apply Kp.alloc) | (with_reducible apply Kp.drew) | (with_reducible apply Kp.drewN) | (with_reducible refine Kp.setCell ?_ (by first | (dsimp only; omega) | (simp; omega) | (simp; done) | (simp [size_ext_eq]; omega)) _))))) (isSh_facts R.ok).1 (isSh_facts R.ok).2 R.a2
        unfold RetSh at h
        rw [mapSh_kind, hkk] at h
        exact h
      have hC3 : ∀ u0, Calls Tryz.prog 7 #[.agg #[.int .i64 k, .slice p1 n1 c1, .slice p2 n2 c2], .float .f64 4607182418800017408] (ext wc.drew u0) (fun e w1 => ∃ lv pv u, e = .returned (.agg #[.int .i64 k, lv, pv]) ∧ w1 = ext wc.drew u ∧ Kp (ext wc.drew u0) w1 ∧ ShB 4 (ext wc.drew u0).heap.size w1.heap.size w1 lv pv (mapSh (addP oneF) 4 s)) := fun u0 => by
        have h := changed_c 4 s oneF _ _ (ext wc.drew u0) (hin0.kp (show Kp wc _ from (by repeat (first | (with_reducible exact Kp.refl _) | (with_reducible assumption) | (with_reducible apply Kp.ext) | (with_reducible apply Kp.alloc) | (with_reducible apply Kp.drew) | (with_reducible apply Kp.drewN) | (with_reducible refine Kp.setCell ?_ (by first | (dsimp only; omega) | (simp; omega) | (simp; done) | (simp [size_ext_eq]; omega)) _))))) (isSh_facts R.ok).1 (isSh_facts R.ok).2 R.a3
        unfold RetSh at h
        rw [mapSh_kind, hkk] at h
        exact h.mono fun e w1 ⟨lv, pv, u, h1, h2, h3⟩ => ⟨lv, pv, w1, h1, (by subst h2; exact ext_of (((Kp.refl _).ext u0).ext u)), (by rw [h2]; exact (Kp.refl _).ext u), h3⟩
      have HC2 := Lib.hid hC2
      have HC3 := Lib.hid hC3
      have x0 : ∀ u, (ext wc.drew u).cell? ⟨w.heap.size, 0, none⟩ = some (.int .i64 k) := fun u => (b0.kp (show Kp wc _ from (by repeat (first | (with_reducible exact Kp.refl _) | (with_reducible assumption) | (with_reducible apply Kp.ext) | (with_reducible apply Kp.alloc) | (with_reducible apply Kp.drew) | (with_reducible apply Kp.drewN) | (with_reducible refine Kp.setCell ?_ (by first | (dsimp only; omega) | (simp; omega) | (simp; done) | (simp [size_ext_eq]; omega)) _))))).c0
      have x1 : ∀ u, (ext wc.drew u).cell? ⟨w.heap.size, 1, none⟩ = some (.slice p1 n1 c1) := fun u => (b0.kp (show Kp wc _ from (by repeat (first | (with_reducible exact Kp.refl _) | (with_reducible assumption) | (with_reducible apply Kp.ext) | (with_reducible apply Kp.alloc) | (with_reducible apply Kp.drew) | (with_reducible apply Kp.drewN) | (with_reducible refine Kp.setCell ?_ (by first | (dsimp only; omega) | (simp; omega) | (simp; done) | (simp [size_ext_eq]; omega)) _))))).c1
      have x2 : ∀ u, (ext wc.drew u).cell? ⟨w.heap.size, 2, none⟩ = some (.slice p2 n2 c2) := fun u => (b0.kp (show Kp wc _ from (by repeat (first | (with_reducible exact Kp.refl _) | (with_reducible assumption) | (with_reducible apply Kp.ext) | (with_reducible apply Kp.alloc) | (with_reducible apply Kp.drew) | (with_reducible apply Kp.drewN) | (with_reducible refine Kp.setCell ?_ (by first | (dsimp only; omega) | (simp; omega) | (simp; done) | (simp [size_ext_eq]; omega)) _))))).c2
      have y0 : ∀ u, (ext wc.drew u).cell? ⟨B, 0, none⟩ = some (.int .i64 k) := fun u => (b1.kp (show Kp wc _ from (by repeat (first | (with_reducible exact Kp.refl _) | (with_reducible assumption) | (with_reducible apply Kp.ext) | (with_reducible apply Kp.alloc) | (with_reducible apply Kp.drew) | (with_reducible apply Kp.drewN) | (with_reducible refine Kp.setCell ?_ (by first | (dsimp only; omega) | (simp; omega) | (simp; done) | (simp [size_ext_eq]; omega)) _))))).c0
      have y1 : ∀ u, (ext wc.drew u).cell? ⟨B, 1, none⟩ = some (.slice q1 m1 d1) := fun u => (b1.kp (show Kp wc _ from (by repeat (first | (with_reducible exact Kp.refl _) | (with_reducible assumption) | (with_reducible apply Kp.ext) | (with_reducible apply Kp.alloc) | (with_reducible apply Kp.drew) | (with_reducible apply Kp.drewN) | (with_reducible refine Kp.setCell ?_ (by first | (dsimp only; omega) | (simp; omega) | (simp; done) | (simp [size_ext_eq]; omega)) _))))).c1
      have y2 : ∀ u, (ext wc.drew u).cell? ⟨B, 2, none⟩ = some (.slice q2 m2 d2) := fun u => (b1.kp (show Kp wc _ from (by repeat (first | (with_reducible exact Kp.refl _) | (with_reducible assumption) | (with_reducible apply Kp.ext) | (with_reducible apply Kp.alloc) | (with_reducible apply Kp.drew) | (with_reducible apply Kp.drewN) | (with_reducible refine Kp.setCell ?_ (by first | (dsimp only; omega) | (simp; omega) | (simp; done) | (simp [size_ext_eq]; omega)) _))))).c2
      have z0 : ∀ u, (ext wc.drew u).cell? ⟨N, 0, none⟩ = some (.int .i64 k) := fun u => (b2.kp (show Kp wc _ from (by repeat (first | (with_reducible exact Kp.refl _) | (with_reducible assumption) | (with_reducible apply Kp.ext) | (with_reducible apply Kp.alloc) | (with_reducible apply Kp.drew) | (with_reducible apply Kp.drewN) | (with_reducible refine Kp.setCell ?_ (by first | (dsimp only; omega) | (simp; omega) | (simp; done) | (simp [size_ext_eq]; omega)) _))))).c0
      have z1 : ∀ u, (ext wc.drew u).cell? ⟨N, 1, none⟩ = some (.slice p1 n1 c1) := fun u => (b2.kp (show Kp wc _ from (by repeat (first | (with_reducible exact Kp.refl _) | (with_reducible assumption) | (with_reducible apply Kp.ext) | (with_reducible apply Kp.alloc) | (with_reducible apply Kp.drew) | (with_reducible apply Kp.drewN) | (with_reducible refine Kp.setCell ?_ (by first | (dsimp only; omega) | (simp; omega) | (simp; done) | (simp [size_ext_eq]; omega)) _))))).c1
      have z2 : ∀ u, (ext wc.drew u).cell? ⟨N, 2, none⟩ = some (.slice p2 n2 c2) := fun u => (b2.kp (show Kp wc _ from (by repeat (first | (with_reducible exact Kp.refl _) | (with_reducible assumption) | (with_reducible apply Kp.ext) | (with_reducible apply Kp.alloc) | (with_reducible apply Kp.drew) | (with_reducible apply Kp.drewN) | (with_reducible refine Kp.setCell ?_ (by first | (dsimp only; omega) | (simp; omega) | (simp; done) | (simp [size_ext_eq]; omega)) _))))).c2
      have x4 := b0.c0
      have x5 := b0.c1
      have x6 := b0.c2
      have y7 : ∀ u j, (ext wc.drew u).frozen? ⟨B, j, none⟩ = false := fun u => (b1.kp (show Kp wc _ from (by repeat (first | (with_reducible exact Kp.refl _) | (with_reducible assumption) | (with_reducible apply Kp.ext) | (with_reducible apply Kp.alloc) | (with_reducible apply Kp.drew) | (with_reducible apply Kp.drewN) | (with_reducible refine Kp.setCell ?_ (by first | (dsimp only; omega) | (simp; omega) | (simp; done) | (simp [size_ext_eq]; omega)) _))))).z
      have z7 : ∀ u j, (ext wc.drew u).frozen? ⟨N, j, none⟩ = false := fun u => (b2.kp (show Kp wc _ from (by repeat (first | (with_reducible exact Kp.refl _) | (with_reducible assumption) | (with_reducible apply Kp.ext) | (with_reducible apply Kp.alloc) | (with_reducible apply Kp.drew) | (with_reducible apply Kp.drewN) | (with_reducible refine Kp.setCell ?_ (by first | (dsimp only; omega) | (simp; omega) | (simp; done) | (simp [size_ext_eq]; omega)) _))))).z
      have Hb0 := Lib.hid b0
      have Hb1 := Lib.hid b1
      have Hb2 := Lib.hid b2
      have hNB : N ≠ B := Ne.symm hBN
      clear R hin0 hC2 hC3 hkk b0 b1 b2
      go_upto_region 7 with fail
      go_cut [5, 6] (fun s5 s6 wx => ∃ (lv2 pv2 lv3 pv3 : Value), s5 = .pointer (some ⟨B, 0, none⟩) ∧ s6 = .pointer (some ⟨N, 0, none⟩) ∧ Kp w wx ∧ BoxS wx w.heap.size (.int .i64 k) (.slice p1 n1 c1) (.slice p2 n2 c2) ∧ BoxS wx B (.int .i64 k) lv2 pv2 ∧ BoxS wx N (.int .i64 k) lv3 pv3 ∧ ShIn 4 wx lv2 pv2 (mapSh (addP threeF) 4 s) ∧ ShIn 4 wx lv3 pv3 (mapSh (addP oneF) 4 s))
      case first =>
        go_region_with (first | (go_at_call 7; (with_reducible refine HC2.out.mono ?_); rintro e w1 ⟨lv2, pv2, u, rfl, rfl, hsh⟩; obtain ⟨⟨q3, m3, d3, rfl⟩, q4, m4, d4, rfl⟩ := hsh.form; have Hs2 := Lib.hid hsh; clear hsh) | (go_at_call 7; (with_reducible refine (HC3.out _).mono ?_); rintro e w1 ⟨lv3, pv3, u, rfl, rfl, hkp, hsh⟩; obtain ⟨⟨q5, m5, d5, rfl⟩, q6, m6, d6, rfl⟩ := hsh.form; have Hs3 := Lib.hid hsh; clear hsh))
        all_goals go_wp2_with fail
        all_goals go_meet
        all_goals
          have hkw : Kp wc (ext wc.drew u) := (by repeat (first | (with_reducible exact Kp.refl _) | (with_reducible assumption) | (with_reducible apply Kp.ext) | (with_reducible apply Kp.alloc) | (with_reducible apply Kp.drew) | (with_reducible apply Kp.drewN) | (with_reducible refine Kp.setCell ?_ (by first | (dsimp only; omega) | (simp; omega) | (simp; done) | (simp [size_ext_eq]; omega)) _)))
          have hb0 := Hb0.out.kp hkw
          have hb1 := Hb1.out.kp hkw
          have hb2 := Hb2.out.kp hkw
          have l1 : B < wc.drew.heap.size := Hb1.out.lt
          have l2 : N < wc.drew.heap.size := Hb2.out.lt
          have l3 := hkp.size
          have l4 := fun u0 => (ext_below wc.drew u0).size
          refine ⟨.slice q3 m3 d3, .slice q4 m4 d4, .slice q5 m5 d5, .slice q6 m6 d6, rfl, rfl, (by repeat (first | (with_reducible exact Kp.refl _) | (with_reducible assumption) | (with_reducible apply Kp.ext) | (with_reducible apply Kp.alloc) | (with_reducible apply Kp.drew) | (with_reducible apply Kp.drewN) | (with_reducible refine Kp.setCell ?_ (by first | (dsimp only; omega) | (simp; omega) | (simp; done) | (simp [size_ext_eq]; omega)) _))), ?_, ?_, ?_, ?_, ?_⟩
          · exact (((((hb0.oth (by omega) _ _).oth (by omega) _ _).oth (by omega) _ _).oth (by omega) _ _).oth (by omega) _ _).oth (by omega) _ _
          · exact (((((hb1.set0 _).set1 _).set2 _).oth hNB _ _).oth hNB _ _).oth hNB _ _
          · exact (((((hb2.oth hBN _ _).oth hBN _ _).oth hBN _ _).set0 _).set1 _).set2 _
          · exact ShB.arg (ShB.keep Hs2.out ((Agree.of_kp hkp (Nat.le_refl _)).trans (agree6 l1 l2 _ _ _ _ _ _)) (by simpa using l3)) HR.out.b2 HR.out.ok (Kp.refl _) (by simpa using l3)
          · exact ShB.arg (ShB.keep Hs3.out (agree6 (Nat.lt_of_lt_of_le l1 (l4 _)) (Nat.lt_of_lt_of_le l2 (l4 _)) _ _ _ _ _ _) (by simp)) HR.out.b3 HR.out.ok (Kp.refl _) (by simp)
      case rest =>
        clear HC2 HC3 x0 x1 x2 x4 x5 x6 y0 y1 y2 y7 z0 z1 z2 z7 Hb0 Hb1 Hb2 hk
        obtain ⟨lv2, pv2, lv3, pv3, rfl, rfl, hk, b0, b1, b2, hin1, hin2⟩ := hcut
        have R := HR.out
        have hin0 := Hin.out.kp hk
        obtain ⟨⟨q3, m3, d3, rfl⟩, q4, m4, d4, rfl⟩ := hin1.form
        obtain ⟨⟨q5, m5, d5, rfl⟩, q6, m6, d6, rfl⟩ := hin2.form
        have hkk := Hk.out
        have hR0 : ∀ u0, Calls Tryz.prog 9 #[.agg #[.int .i64 k, .slice p1 n1 c1, .slice p2 n2 c2], .int .i64 1] (ext wc.drew u0) (fun e w1 => ∃ lv pv u, e = .returned (.agg #[.int .i64 k, lv, pv]) ∧ w1 = ext wc.drew u ∧ ShB 4 (ext wc.drew u0).heap.size w1.heap.size w1 lv pv (mapSh rdP 4 s)) := fun u0 => by
          have h := rounded_c s _ _ (ext wc.drew u0) (hin0.kp (show Kp wc _ from (by repeat (first | (with_reducible exact Kp.refl _) | (with_reducible assumption) | (with_reducible apply Kp.ext) | (with_reducible apply Kp.alloc) | (with_reducible apply Kp.drew) | (with_reducible apply Kp.drewN) | (with_reducible refine Kp.setCell ?_ (by first | (dsimp only; omega) | (simp; omega) | (simp; done) | (simp [size_ext_eq]; omega)) _))))) R.ok R.g0
          unfold RetSh at h
          rw [mapSh_kind, hkk] at h
          exact h.mono fun e w1 ⟨lv, pv, u, h1, h2, h3⟩ => ⟨lv, pv, w1, h1, (by subst h2; exact ext_of (((Kp.refl _).ext u0).ext u)), h3⟩
        have hE0 : ∀ lo hi lv' pv' w1 w', ShB 4 lo hi w1 lv' pv' (mapSh rdP 4 s) → Kp w1 w' → hi ≤ w1.heap.size → Kp wc w' → Calls Tryz.prog 8 #[.agg #[.int .i64 k, lv', pv'], .agg #[.int .i64 k, .slice p1 n1 c1, .slice p2 n2 c2]] w' (Ret w' (.bool true)) := fun lo hi lv' pv' w1 w' h k1 hh hq => by
          have h := specEq_c 4 _ _ lv' pv' _ _ w' (h.arg R.r0 R.ok k1 hh) (hin0.kp hq) (isSh_facts (mapSh_isSh R.ok)).1 (isSh_facts R.ok).1
          rw [mapSh_kind, hkk, R.e0] at h
          exact h
        have HR0 := Lib.hid hR0
        have HE0 := Lib.hid hE0
        have ok1 := mapSh_isSh (f := addP threeF) R.ok
        have hR1 : ∀ u0, Calls Tryz.prog 9 #[.agg #[.int .i64 k, .slice q3 m3 d3, .slice q4 m4 d4], .int .i64 1] (ext wc.drew u0) (fun e w1 => ∃ lv pv u, e = .returned (.agg #[.int .i64 k, lv, pv]) ∧ w1 = ext wc.drew u ∧ ShB 4 (ext wc.drew u0).heap.size w1.heap.size w1 lv pv (mapSh rdP 4 (mapSh (addP threeF) 4 s))) := fun u0 => by
          have h := rounded_c _ _ _ (ext wc.drew u0) (hin1.kp (show Kp wc _ from (by repeat (first | (with_reducible exact Kp.refl _) | (with_reducible assumption) | (with_reducible apply Kp.ext) | (with_reducible apply Kp.alloc) | (with_reducible apply Kp.drew) | (with_reducible apply Kp.drewN) | (with_reducible refine Kp.setCell ?_ (by first | (dsimp only; omega) | (simp; omega) | (simp; done) | (simp [size_ext_eq]; omega)) _))))) ok1 R.g2
          unfold RetSh at h
          rw [mapSh_kind, mapSh_kind, mapSh_kind, hkk] at h
          exact h.mono fun e w1 ⟨lv, pv, u, h1, h2, h3⟩ => ⟨lv, pv, w1, h1, (by subst h2; exact ext_of (((Kp.refl _).ext u0).ext u)), h3⟩
        have hE1 : ∀ lo hi lv' pv' w1 w', ShB 4 lo hi w1 lv' pv' (mapSh rdP 4 (mapSh (addP threeF) 4 s)) → Kp w1 w' → hi ≤ w1.heap.size → Kp wc w' → Calls Tryz.prog 8 #[.agg #[.int .i64 k, lv', pv'], .agg #[.int .i64 k, .slice q5 m5 d5, .slice q6 m6 d6]] w' (Ret w' (.bool true)) := fun lo hi lv' pv' w1 w' h k1 hh hq => by
          have h := specEq_c 4 _ _ lv' pv' _ _ w' (h.arg R.r2 ok1 k1 hh) (hin2.kp hq) (isSh_facts (mapSh_isSh ok1)).1 (isSh_facts (mapSh_isSh R.ok)).1
          rw [mapSh_kind, mapSh_kind, mapSh_kind, hkk, R.e2] at h
          exact h
        have HR1 := Lib.hid hR1
        have HE1 := Lib.hid hE1
        clear R hin0 hin1 hin2 hR0 hE0 hR1 hE1 hkk ok1
        have x0 : ∀ u, (ext wc.drew u).cell? ⟨w.heap.size, 0, none⟩ = some (.int .i64 k) := fun u => (b0.kp (show Kp wc _ from (by repeat (first | (with_reducible exact Kp.refl _) | (with_reducible assumption) | (with_reducible apply Kp.ext) | (with_reducible apply Kp.alloc) | (with_reducible apply Kp.drew) | (with_reducible apply Kp.drewN) | (with_reducible refine Kp.setCell ?_ (by first | (dsimp only; omega) | (simp; omega) | (simp; done) | (simp [size_ext_eq]; omega)) _))))).c0
        have x1 : ∀ u, (ext wc.drew u).cell? ⟨w.heap.size, 1, none⟩ = some (.slice p1 n1 c1) := fun u => (b0.kp (show Kp wc _ from (by repeat (first | (with_reducible exact Kp.refl _) | (with_reducible assumption) | (with_reducible apply Kp.ext) | (with_reducible apply Kp.alloc) | (with_reducible apply Kp.drew) | (with_reducible apply Kp.drewN) | (with_reducible refine Kp.setCell ?_ (by first | (dsimp only; omega) | (simp; omega) | (simp; done) | (simp [size_ext_eq]; omega)) _))))).c1
        have x2 : ∀ u, (ext wc.drew u).cell? ⟨w.heap.size, 2, none⟩ = some (.slice p2 n2 c2) := fun u => (b0.kp (show Kp wc _ from (by repeat (first | (with_reducible exact Kp.refl _) | (with_reducible assumption) | (with_reducible apply Kp.ext) | (with_reducible apply Kp.alloc) | (with_reducible apply Kp.drew) | (with_reducible apply Kp.drewN) | (with_reducible refine Kp.setCell ?_ (by first | (dsimp only; omega) | (simp; omega) | (simp; done) | (simp [size_ext_eq]; omega)) _))))).c2
        have y0 : ∀ u, (ext wc.drew u).cell? ⟨B, 0, none⟩ = some (.int .i64 k) := fun u => (b1.kp (show Kp wc _ from (by repeat (first | (with_reducible exact Kp.refl _) | (with_reducible assumption) | (with_reducible apply Kp.ext) | (with_reducible apply Kp.alloc) | (with_reducible apply Kp.drew) | (with_reducible apply Kp.drewN) | (with_reducible refine Kp.setCell ?_ (by first | (dsimp only; omega) | (simp; omega) | (simp; done) | (simp [size_ext_eq]; omega)) _))))).c0
        have y1 : ∀ u, (ext wc.drew u).cell? ⟨B, 1, none⟩ = some (.slice q3 m3 d3) := fun u => (b1.kp (show Kp wc _ from (by repeat (first | (with_reducible exact Kp.refl _) | (with_reducible assumption) | (with_reducible apply Kp.ext) | (with_reducible apply Kp.alloc) | (with_reducible apply Kp.drew) | (with_reducible apply Kp.drewN) | (with_reducible refine Kp.setCell ?_ (by first | (dsimp only; omega) | (simp; omega) | (simp; done) | (simp [size_ext_eq]; omega)) _))))).c1
        have y2 : ∀ u, (ext wc.drew u).cell? ⟨B, 2, none⟩ = some (.slice q4 m4 d4) := fun u => (b1.kp (show Kp wc _ from (by repeat (first | (with_reducible exact Kp.refl _) | (with_reducible assumption) | (with_reducible apply Kp.ext) | (with_reducible apply Kp.alloc) | (with_reducible apply Kp.drew) | (with_reducible apply Kp.drewN) | (with_reducible refine Kp.setCell ?_ (by first | (dsimp only; omega) | (simp; omega) | (simp; done) | (simp [size_ext_eq]; omega)) _))))).c2
        have z0 : ∀ u, (ext wc.drew u).cell? ⟨N, 0, none⟩ = some (.int .i64 k) := fun u => (b2.kp (show Kp wc _ from (by repeat (first | (with_reducible exact Kp.refl _) | (with_reducible assumption) | (with_reducible apply Kp.ext) | (with_reducible apply Kp.alloc) | (with_reducible apply Kp.drew) | (with_reducible apply Kp.drewN) | (with_reducible refine Kp.setCell ?_ (by first | (dsimp only; omega) | (simp; omega) | (simp; done) | (simp [size_ext_eq]; omega)) _))))).c0
        have z1 : ∀ u, (ext wc.drew u).cell? ⟨N, 1, none⟩ = some (.slice q5 m5 d5) := fun u => (b2.kp (show Kp wc _ from (by repeat (first | (with_reducible exact Kp.refl _) | (with_reducible assumption) | (with_reducible apply Kp.ext) | (with_reducible apply Kp.alloc) | (with_reducible apply Kp.drew) | (with_reducible apply Kp.drewN) | (with_reducible refine Kp.setCell ?_ (by first | (dsimp only; omega) | (simp; omega) | (simp; done) | (simp [size_ext_eq]; omega)) _))))).c1
        have z2 : ∀ u, (ext wc.drew u).cell? ⟨N, 2, none⟩ = some (.slice q6 m6 d6) := fun u => (b2.kp (show Kp wc _ from (by repeat (first | (with_reducible exact Kp.refl _) | (with_reducible assumption) | (with_reducible apply Kp.ext) | (with_reducible apply Kp.alloc) | (with_reducible apply Kp.drew) | (with_reducible apply Kp.drewN) | (with_reducible refine Kp.setCell ?_ (by first | (dsimp only; omega) | (simp; omega) | (simp; done) | (simp [size_ext_eq]; omega)) _))))).c2
        obtain ⟨_, x4, x5, x6, _⟩ := b0
        obtain ⟨_, y4, y5, y6, _⟩ := b1
        obtain ⟨_, z4, z5, z6, _⟩ := b2
        go_upto_region 8 with fail
        go_region_with (first | (go_at_call 6; (first | (with_reducible refine (Ret.at_ext (shapes_c _)).mono ?_) | (with_reducible refine (shapes_c _).mono ?_)); rintro e w' ⟨rfl, u, rfl⟩) | (go_at_call 9; (with_reducible refine (HR0.out _).mono ?_); rintro e w1 ⟨lv0, pv0, u, rfl, rfl, hsh⟩; have Hs0 := Lib.hid hsh; clear hsh) | (go_at_call 9; (with_reducible refine (HR1.out _).mono ?_); rintro e w1 ⟨lv3, pv3, u, rfl, rfl, hsh⟩; have Hs1 := Lib.hid hsh; clear hsh) | (go_at_call 8; (first | (with_reducible refine (Ret.at_ext (HE1.out _ _ _ _ _ _ Hs1.out (by repeat (first | (with_reducible exact Kp.refl _) | (with_reducible assumption) | (with_reducible apply Kp.ext) | (with_reducible apply Kp.alloc) | (with_reducible apply Kp.drew) | (with_reducible apply Kp.drewN) | (with_reducible refine Kp.setCell ?_ (by first | (dsimp only; omega) | (simp; omega) | (simp; done) | (simp [size_ext_eq]; omega)) _))) (Nat.le_refl _) (by repeat (first | (with_reducible exact Kp.refl _) | (with_reducible assumption) | (with_reducible apply Kp.ext) | (with_reducible apply Kp.alloc) | (with_reducible apply Kp.drew) | (with_reducible apply Kp.drewN) | (with_reducible refine Kp.setCell ?_ (by first | (dsimp only; omega) | (simp; omega) | (simp; done) | (simp [size_ext_eq]; omega)) _))))).mono ?_) | (with_reducible refine (HE1.out _ _ _ _ _ _ Hs1.out (by repeat (first | (with_reducible exact Kp.refl _) | (with_reducible assumption) | (with_reducible apply Kp.ext) | (with_reducible apply Kp.alloc) | (with_reducible apply Kp.drew) | (with_reducible apply Kp.drewN) | (with_reducible refine Kp.setCell ?_ (by first | (dsimp only; omega) | (simp; omega) | (simp; done) | (simp [size_ext_eq]; omega)) _))) (Nat.le_refl _) (by repeat (first | (with_reducible exact Kp.refl _) | (with_reducible assumption) | (with_reducible apply Kp.ext) | (with_reducible apply Kp.alloc) | (with_reducible apply Kp.drew) | (with_reducible apply Kp.drewN) | (with_reducible refine Kp.setCell ?_ (by first | (dsimp only; omega) | (simp; omega) | (simp; done) | (simp [size_ext_eq]; omega)) _)))).mono ?_)); rintro e w' ⟨rfl, u, rfl⟩) | (go_at_call 8; (first | (with_reducible refine (Ret.at_ext (HE0.out _ _ _ _ _ _ Hs0.out (by repeat (first | (with_reducible exact Kp.refl _) | (with_reducible assumption) | (with_reducible apply Kp.ext) | (with_reducible apply Kp.alloc) | (with_reducible apply Kp.drew) | (with_reducible apply Kp.drewN) | (with_reducible refine Kp.setCell ?_ (by first | (dsimp only; omega) | (simp; omega) | (simp; done) | (simp [size_ext_eq]; omega)) _))) (Nat.le_refl _) (by repeat (first | (with_reducible exact Kp.refl _) | (with_reducible assumption) | (with_reducible apply Kp.ext) | (with_reducible apply Kp.alloc) | (with_reducible apply Kp.drew) | (with_reducible apply Kp.drewN) | (with_reducible refine Kp.setCell ?_ (by first | (dsimp only; omega) | (simp; omega) | (simp; done) | (simp [size_ext_eq]; omega)) _))))).mono ?_) | (with_reducible refine (HE0.out _ _ _ _ _ _ Hs0.out (by repeat (first | (with_reducible exact Kp.refl _) | (with_reducible assumption) | (with_reducible apply Kp.ext) | (with_reducible apply Kp.alloc) | (with_reducible apply Kp.drew) | (with_reducible apply Kp.drewN) | (with_reducible refine Kp.setCell ?_ (by first | (dsimp only; omega) | (simp; omega) | (simp; done) | (simp [size_ext_eq]; omega)) _))) (Nat.le_refl _) (by repeat (first | (with_reducible exact Kp.refl _) | (with_reducible assumption) | (with_reducible apply Kp.ext) | (with_reducible apply Kp.alloc) | (with_reducible apply Kp.drew) | (with_reducible apply Kp.drewN) | (with_reducible refine Kp.setCell ?_ (by first | (dsimp only; omega) | (simp; omega) | (simp; done) | (simp [size_ext_eq]; omega)) _)))).mono ?_)); rintro e w' ⟨rfl, u, rfl⟩))
        all_goals go_wp2_with fail
        all_goals (go_ret; exact Ret.mk rfl (by repeat (first | (with_reducible exact Kp.refl _) | (with_reducible assumption) | (with_reducible apply Kp.ext) | (with_reducible apply Kp.alloc) | (with_reducible apply Kp.drew) | (with_reducible apply Kp.drewN) | (with_reducible refine Kp.setCell ?_ (by first | (dsimp only; omega) | (simp; omega) | (simp; done) | (simp [size_ext_eq]; omega)) _))))
end Go.Proofs.YtohidpmkoehmcaaGreat
