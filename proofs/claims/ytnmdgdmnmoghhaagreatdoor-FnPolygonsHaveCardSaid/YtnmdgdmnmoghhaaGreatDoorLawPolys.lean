/-
  laws.FnPolygonsHave, walked: it answers true.
-/
import Derived.Test.YtnmdgdmnmoghhaaGreatDoorPolysHave
namespace Go.Proofs.YtnmdgdmnmoghhaaGreatDoor
open PubFl Go.RowKit

attribute [local go_sem] cell_ext frozen_ext ext_setCell cell_store size_ext_eq lt_p0 lt_p1 lt_p2 lt_p3 lt_p4 lt_p5 lt_p6 lt_p7 lt_p8 lt_p9 lt_p10 lt_p11 lt_p12 lt_p13 lt_p14 lt_p15 lt_p16 lt_p17 lt_p18 lt_p19 lt_p20 lt_p21 lt_p22 lt_p23 lt_p24 lt_p25 lt_p26 lt_p27 lt_p28 lt_p29 lt_p30 lt_p31 lt_p32 lt_q1 lt_q2 lt_q3 lt_q4 lt_q5 lt_q6 lt_q7 lt_q8 lt_q9 lt_q10 lt_q11 lt_q12 lt_q13 lt_q14 lt_q15 lt_q16 lt_q17 lt_q18 lt_q19 lt_q20 lt_q21 lt_q22 lt_q23 lt_q24 lt_q25 lt_q26 lt_q27 lt_q28 lt_q29 lt_q30 lt_q31 lt_q32 run_fop run_store_float
attribute [local go_sem high] cmp_eql cmp_neq cmp_lss cmp_leq cmp_gtr cmp_geq

theorem new_lt {W : World} {o : Obj} {n : Nat} (h : n = W.heap.size) : n < (W.alloc o).heap.size := by subst h; simp
theorem new_cell {W : World} {c : Array Value} {T : TypeId} {n i : Nat} {v : Value} (h : n = W.heap.size) (hv : c[i]? = some v) : (W.alloc (.cells c T)).cell? ⟨n, i, none⟩ = some v := by
  subst h
  simp [hv]

set_option maxRecDepth 100000 in
set_option maxHeartbeats 4000000 in
theorem polys_last (s t : Sh) (a1 a2 b1 b2 : Option Addr) (c1 n2 c2 d1 m2 d2 : Nat) (w : World) (hl : LissIn w (.slice a1 s.lists.length c1) s.lists) (hl' : LissIn w (.slice b1 t.lists.length d1) t.lists)
    (k0 : 0 < s.lists.length) (k6 : s.lists.length ≤ 6) (j0 : 0 < t.lists.length) (j6 : t.lists.length ≤ 6) (Ps Qs : Nat → Nat → Int × Int) (hR : RingsP s.lists Ps) (hQ : RingsP t.lists Qs) (px py : Nat) (p : Int × Int) (hp : PtW px py p)
    (hfit : ∀ w', Kp w w' → Calls Tryz.prog 6 #[.agg #[.int .i64 s.kind, .slice a1 s.lists.length c1, .slice a2 n2 c2]] w' (Ret w' (.bool true)))
    (hfit' : ∀ w', Kp w w' → Calls Tryz.prog 6 #[.agg #[.int .i64 t.kind, .slice b1 t.lists.length d1, .slice b2 m2 d2]] w' (Ret w' (.bool true)))
    (hP : ∀ w', Kp w w' → Calls Tryz.prog 7 #[.agg #[.int .i64 s.kind, .slice a1 s.lists.length c1, .slice a2 n2 c2]] w' (Ret w' (.bool true)))
    (hP' : ∀ w', Kp w w' → Calls Tryz.prog 7 #[.agg #[.int .i64 t.kind, .slice b1 t.lists.length d1, .slice b2 m2 d2]] w' (Ret w' (.bool true)))
    (hpt : ∀ w', Calls Tryz.prog 8 #[.agg #[.float .f64 px, .float .f64 py]] w' (Ret w' (.bool true))) :
    Calls Tryz.prog 4 #[.agg #[.int .i64 s.kind, .slice a1 s.lists.length c1, .slice a2 n2 c2], .agg #[.int .i64 t.kind, .slice b1 t.lists.length d1, .slice b2 m2 d2], .agg #[.float .f64 px, .float .f64 py]] w (Ret w (.bool true)) := by
  have hA := fun w' (hk : Kp w w') => polygonHas_c (.int .i64 s.kind) (.slice a2 n2 c2) s.lists a1 c1 w' (hl.kp hk) k0 (by omega) Ps hR px py p hp
  have hB := fun w' (hk : Kp w w') => polygonHas_c (.int .i64 t.kind) (.slice b2 m2 d2) t.lists b1 d1 w' (hl'.kp hk) j0 (by omega) Qs hQ px py p hp
  have hPH : ∀ (g : Nat) (w' : World), Kp w w' → g < w'.heap.size → w'.cell? ⟨g, 0, none⟩ = some (.int .i64 s.kind) → w'.cell? ⟨g, 1, none⟩ = some (.slice a1 s.lists.length c1) → w'.cell? ⟨g, 2, none⟩ = some (.slice a2 n2 c2) →
      w'.cell? ⟨g, 3, none⟩ = some (.int .i64 t.kind) → w'.cell? ⟨g, 4, none⟩ = some (.slice b1 t.lists.length d1) → w'.cell? ⟨g, 5, none⟩ = some (.slice b2 m2 d2) →
      Calls Tryz.prog 14 #[.slice (some ⟨g, 0, none⟩) 2 2, .agg #[.float .f64 px, .float .f64 py]] w' (Ret w' (.bool (polyI s.lists Ps p || polyI t.lists Qs p))) := by
    intro g w' hk hg q0 q1 q2 q3 q4 q5
    have := polygonsHave_c g 2 2 (by omega) (by omega) (fun i => if i = 0 then s.lists else t.lists) (fun i hi => by
      by_cases c : i = 0
      · rw [if_pos c]; exact ⟨by omega, k0, fun j h => by have := hR j h; exact ⟨by have := this.lo; omega, by have := this.hi; omega⟩⟩
      · rw [if_neg c]; exact ⟨by omega, j0, fun j h => by have := hQ j h; exact ⟨by have := this.lo; omega, by have := this.hi; omega⟩⟩) w' hg (fun i hi => by
      rcases (show i = 0 ∨ i = 1 by omega) with rfl | rfl
      · exact ⟨_, _, _, _, q0, q1, q2, hl.kp hk, ⟨_, rfl⟩, _, _, _, rfl⟩
      · exact ⟨_, _, _, _, q3, q4, q5, hl'.kp hk, ⟨_, rfl⟩, _, _, _, rfl⟩) (fun i => if i = 0 then polyI s.lists Ps p else polyI t.lists Qs p) px py (fun i hi x w'' hx => by
      rcases (show i = 0 ∨ i = 1 by omega) with rfl | rfl
      · exact polyContains_c x s.lists k0 (by omega) w'' hx Ps hR px py p hp
      · exact polyContains_c x t.lists j0 (by omega) w'' hx Qs hQ px py p hp)
    have e : ((List.range 2).any fun i => if i = 0 then polyI s.lists Ps p else polyI t.lists Qs p) = (polyI s.lists Ps p || polyI t.lists Qs p) := by
      show ((if 0 = 0 then _ else _) || ((if 1 = 0 then _ else _) || false)) = _
      simp
    rwa [e] at this
  generalize polyI s.lists Ps p = va at *
  generalize polyI t.lists Qs p = vb at *
  have HA := Lib.hid hA
  have HB := Lib.hid hB
  have HPH := Lib.hid hPH
  have Hf1 := Lib.hid hfit
  have Hf2 := Lib.hid hfit'
  have Hp1 := Lib.hid hP
  have Hp2 := Lib.hid hP'
  have Hpt := Lib.hid hpt
  clear hA hB hPH hl hl' hR hQ hp hfit hfit' hP hP' hpt k0 k6 j0 j6
  cases va
  all_goals
    go_enter Tryz.func4, Tryz.ntmps4
    go_wp2_with (first | (go_at_call 6; (first | (with_reducible refine (Ret.at_ext (Hf1.out _ (by repeat (first | (with_reducible exact Kp.refl _) | (with_reducible assumption) | (with_reducible apply Kp.ext) | (with_reducible apply Kp.alloc) | (with_reducible apply Kp.drew) | (with_reducible apply Kp.drewN) | (with_reducible refine Kp.setCell ?_ (by first | (dsimp only; omega) | (simp; omega) | (simp; done) | (simp [size_ext_eq]; omega)) _))))).mono ?_) | (with_reducible refine (Hf1.out _ (by repeat (first | (with_reducible exact Kp.refl _) | (with_reducible assumption) | (with_reducible apply Kp.ext) | (with_reducible apply Kp.alloc) | (with_reducible apply Kp.drew) | (with_reducible apply Kp.drewN) | (with_reducible refine Kp.setCell ?_ (by first | (dsimp only; omega) | (simp; omega) | (simp; done) | (simp [size_ext_eq]; omega)) _)))).mono ?_)); rintro e w' ⟨rfl, u, rfl⟩) | (go_at_call 6; (first | (with_reducible refine (Ret.at_ext (Hf2.out _ (by repeat (first | (with_reducible exact Kp.refl _) | (with_reducible assumption) | (with_reducible apply Kp.ext) | (with_reducible apply Kp.alloc) | (with_reducible apply Kp.drew) | (with_reducible apply Kp.drewN) | (with_reducible refine Kp.setCell ?_ (by first | (dsimp only; omega) | (simp; omega) | (simp; done) | (simp [size_ext_eq]; omega)) _))))).mono ?_) | (with_reducible refine (Hf2.out _ (by repeat (first | (with_reducible exact Kp.refl _) | (with_reducible assumption) | (with_reducible apply Kp.ext) | (with_reducible apply Kp.alloc) | (with_reducible apply Kp.drew) | (with_reducible apply Kp.drewN) | (with_reducible refine Kp.setCell ?_ (by first | (dsimp only; omega) | (simp; omega) | (simp; done) | (simp [size_ext_eq]; omega)) _)))).mono ?_)); rintro e w' ⟨rfl, u, rfl⟩) | (go_at_call 7; (first | (with_reducible refine (Ret.at_ext (Hp1.out _ (by repeat (first | (with_reducible exact Kp.refl _) | (with_reducible assumption) | (with_reducible apply Kp.ext) | (with_reducible apply Kp.alloc) | (with_reducible apply Kp.drew) | (with_reducible apply Kp.drewN) | (with_reducible refine Kp.setCell ?_ (by first | (dsimp only; omega) | (simp; omega) | (simp; done) | (simp [size_ext_eq]; omega)) _))))).mono ?_) | (with_reducible refine (Hp1.out _ (by repeat (first | (with_reducible exact Kp.refl _) | (with_reducible assumption) | (with_reducible apply Kp.ext) | (with_reducible apply Kp.alloc) | (with_reducible apply Kp.drew) | (with_reducible apply Kp.drewN) | (with_reducible refine Kp.setCell ?_ (by first | (dsimp only; omega) | (simp; omega) | (simp; done) | (simp [size_ext_eq]; omega)) _)))).mono ?_)); rintro e w' ⟨rfl, u, rfl⟩) | (go_at_call 7; (first | (with_reducible refine (Ret.at_ext (Hp2.out _ (by repeat (first | (with_reducible exact Kp.refl _) | (with_reducible assumption) | (with_reducible apply Kp.ext) | (with_reducible apply Kp.alloc) | (with_reducible apply Kp.drew) | (with_reducible apply Kp.drewN) | (with_reducible refine Kp.setCell ?_ (by first | (dsimp only; omega) | (simp; omega) | (simp; done) | (simp [size_ext_eq]; omega)) _))))).mono ?_) | (with_reducible refine (Hp2.out _ (by repeat (first | (with_reducible exact Kp.refl _) | (with_reducible assumption) | (with_reducible apply Kp.ext) | (with_reducible apply Kp.alloc) | (with_reducible apply Kp.drew) | (with_reducible apply Kp.drewN) | (with_reducible refine Kp.setCell ?_ (by first | (dsimp only; omega) | (simp; omega) | (simp; done) | (simp [size_ext_eq]; omega)) _)))).mono ?_)); rintro e w' ⟨rfl, u, rfl⟩) | (go_at_call 8; (first | (with_reducible refine (Ret.at_ext (Hpt.out _)).mono ?_) | (with_reducible refine (Hpt.out _).mono ?_)); rintro e w' ⟨rfl, u, rfl⟩))
    refine wp_region_ord 9 [(0, true), (1, true), (2, false), (3, false), (5, false), (7, false), (8, false), (4, true), (6, true)] ?_ ?_ ?_ ?_
    · kernel_rfl
    · kernel_rfl
    · exact fun _ _ d _ _ h => by cases d <;> exact h
    refine wpOrd_do rfl ?_
    go_wp2_with (go_at_call 10; (first | (with_reducible refine (Ret.at_ext (measures_c _)).mono ?_) | (with_reducible refine (measures_c _).mono ?_)); rintro e w' ⟨rfl, u, rfl⟩)
    rw [midQ_normal]
    refine ⟨⟨_, ext_of (show Kp _ _ from (by repeat (first | (with_reducible exact Kp.refl _) | (with_reducible assumption) | (with_reducible apply Kp.ext) | (with_reducible apply Kp.alloc) | (with_reducible apply Kp.drew) | (with_reducible apply Kp.drewN) | (with_reducible refine Kp.setCell ?_ (by first | (dsimp only; omega) | (simp; omega) | (simp; done) | (simp [size_ext_eq]; omega)) _))))⟩, ?_⟩
    refine wpOrd_do rfl ?_
    go_wp2_with fail
    rw [midQ_normal]
    refine ⟨⟨_, ext_of (show Kp _ _ from (by repeat (first | (with_reducible exact Kp.refl _) | (with_reducible assumption) | (with_reducible apply Kp.ext) | (with_reducible apply Kp.alloc) | (with_reducible apply Kp.drew) | (with_reducible apply Kp.drewN) | (with_reducible refine Kp.setCell ?_ (by first | (dsimp only; omega) | (simp; omega) | (simp; done) | (simp [size_ext_eq]; omega)) _))))⟩, ?_⟩
    refine wpOrd_take rfl (.agg #[.int .i64 s.kind, .slice a1 s.lists.length c1, .slice a2 n2 c2]) (Or.inl ⟨by rfl, ?_⟩) ?_
    · rintro x ⟨ux, rfl⟩
      go_simp
    simp only [Act.put, List.setIfInBounds_toArray, List.set_cons_zero, List.set_cons_succ]
    refine wpOrd_take rfl (.agg #[.int .i64 t.kind, .slice b1 t.lists.length d1, .slice b2 m2 d2]) (Or.inl ⟨by rfl, ?_⟩) ?_
    · rintro x ⟨ux, rfl⟩
      go_simp
    simp only [Act.put, List.setIfInBounds_toArray, List.set_cons_zero, List.set_cons_succ]
    refine wpOrd_take rfl (.agg #[.float .f64 px, .float .f64 py]) (Or.inl ⟨by rfl, ?_⟩) ?_
    · rintro x ⟨ux, rfl⟩
      go_simp
    simp only [Act.put, List.setIfInBounds_toArray, List.set_cons_zero, List.set_cons_succ]
    refine wpOrd_take rfl (.agg #[.int .i64 s.kind, .slice a1 s.lists.length c1, .slice a2 n2 c2]) (Or.inl ⟨by rfl, ?_⟩) ?_
    · rintro x ⟨ux, rfl⟩
      go_simp
    simp only [Act.put, List.setIfInBounds_toArray, List.set_cons_zero, List.set_cons_succ]
    refine wpOrd_take rfl (.agg #[.float .f64 px, .float .f64 py]) (Or.inl ⟨by rfl, ?_⟩) ?_
    · rintro x ⟨ux, rfl⟩
      go_simp
    simp only [Act.put, List.setIfInBounds_toArray, List.set_cons_zero, List.set_cons_succ]
    refine wpOrd_do rfl ?_
    go_wp2_with fail
    rw [midQ_normal]
    refine ⟨⟨_, ext_of (show Kp _ _ from (by repeat (first | (with_reducible exact Kp.refl _) | (with_reducible assumption) | (with_reducible apply Kp.ext) | (with_reducible apply Kp.alloc) | (with_reducible apply Kp.drew) | (with_reducible apply Kp.drewN) | (with_reducible refine Kp.setCell ?_ (by first | (dsimp only; omega) | (simp; omega) | (simp; done) | (simp [size_ext_eq]; omega)) _))))⟩, ?_⟩
    refine wpOrd_do rfl ?_
    go_wp2_with (go_at_call 14; (first | (with_reducible refine (Ret.at_ext (HPH.out _ _ (by repeat (first | (with_reducible exact Kp.refl _) | (with_reducible assumption) | (with_reducible apply Kp.ext) | (with_reducible apply Kp.alloc) | (with_reducible apply Kp.drew) | (with_reducible apply Kp.drewN) | (with_reducible refine Kp.setCell ?_ (by first | (dsimp only; omega) | (simp; omega) | (simp; done) | (simp [size_ext_eq]; omega)) _))) (new_lt (by simp [size_ext_eq])) (new_cell (by simp [size_ext_eq]) rfl) (new_cell (by simp [size_ext_eq]) rfl) (new_cell (by simp [size_ext_eq]) rfl) (new_cell (by simp [size_ext_eq]) rfl) (new_cell (by simp [size_ext_eq]) rfl) (new_cell (by simp [size_ext_eq]) rfl))).mono ?_) | (with_reducible refine (HPH.out _ _ (by repeat (first | (with_reducible exact Kp.refl _) | (with_reducible assumption) | (with_reducible apply Kp.ext) | (with_reducible apply Kp.alloc) | (with_reducible apply Kp.drew) | (with_reducible apply Kp.drewN) | (with_reducible refine Kp.setCell ?_ (by first | (dsimp only; omega) | (simp; omega) | (simp; done) | (simp [size_ext_eq]; omega)) _))) (new_lt (by simp [size_ext_eq])) (new_cell (by simp [size_ext_eq]) rfl) (new_cell (by simp [size_ext_eq]) rfl) (new_cell (by simp [size_ext_eq]) rfl) (new_cell (by simp [size_ext_eq]) rfl) (new_cell (by simp [size_ext_eq]) rfl) (new_cell (by simp [size_ext_eq]) rfl)).mono ?_)); rintro e w' ⟨rfl, u, rfl⟩)
    rw [midQ_normal]
    refine ⟨⟨_, ext_of (show Kp _ _ from (by repeat (first | (with_reducible exact Kp.refl _) | (with_reducible assumption) | (with_reducible apply Kp.ext) | (with_reducible apply Kp.alloc) | (with_reducible apply Kp.drew) | (with_reducible apply Kp.drewN) | (with_reducible refine Kp.setCell ?_ (by first | (dsimp only; omega) | (simp; omega) | (simp; done) | (simp [size_ext_eq]; omega)) _))))⟩, ?_⟩
    simp only [wpOrd, List.drop_succ_cons, List.drop_zero]
    repeat (go_big_quiet_step (first | (go_at_call 11; with_reducible exact Ret.quiet (HA.out _ (by repeat (first | (with_reducible exact Kp.refl _) | (with_reducible assumption) | (with_reducible apply Kp.ext) | (with_reducible apply Kp.alloc) | (with_reducible apply Kp.drew) | (with_reducible apply Kp.drewN) | (with_reducible refine Kp.setCell ?_ (by first | (dsimp only; omega) | (simp; omega) | (simp; done) | (simp [size_ext_eq]; omega)) _))))) | (go_at_call 11; with_reducible exact Ret.quiet (HB.out _ (by repeat (first | (with_reducible exact Kp.refl _) | (with_reducible assumption) | (with_reducible apply Kp.ext) | (with_reducible apply Kp.alloc) | (with_reducible apply Kp.drew) | (with_reducible apply Kp.drewN) | (with_reducible refine Kp.setCell ?_ (by first | (dsimp only; omega) | (simp; omega) | (simp; done) | (simp [size_ext_eq]; omega)) _)))))))
    refine wpQuiet_nil ?_
    rintro _ ⟨u9, rfl⟩
    go_wp2_with fail
    cases vb
    all_goals (go_ret; exact Ret.mk rfl (by repeat (first | (with_reducible exact Kp.refl _) | (with_reducible assumption) | (with_reducible apply Kp.ext) | (with_reducible apply Kp.alloc) | (with_reducible apply Kp.drew) | (with_reducible apply Kp.drewN) | (with_reducible refine Kp.setCell ?_ (by first | (dsimp only; omega) | (simp; omega) | (simp; done) | (simp [size_ext_eq]; omega)) _))))

/-- what is known of a shape before a law asks whether it is a polygon -/
structure ArgSh (s : Sh) (w : World) (a1 : Option Addr) (c1 : Nat) (pv : Value) (rs : Nat → Bool) : Prop where
  lists : LissIn w (.slice a1 s.lists.length c1) s.lists
  simple : SimpleAt s.lists rs
  poly : ∀ w', Kp w w' → Calls Tryz.prog 7 #[.agg #[.int .i64 s.kind, .slice a1 s.lists.length c1, pv]] w' (Ret w' (.bool (isPolyB s rs)))
theorem argSh (s : Sh) (lv pv : Value) (w : World) (hs : ShIn 4 w lv pv s) (hF : fitsB s = true) : ∃ a1 c1 rs, lv = .slice a1 s.lists.length c1 ∧ ArgSh s w a1 c1 pv rs := by
  obtain ⟨f1, f2, f3⟩ := fits_lists hF
  have hls := id hs
  obtain ⟨hl, _⟩ := hls
  obtain ⟨a', cap', rfl, _, hget⟩ := hl.get
  obtain ⟨rs, hrs⟩ := simple_all s.lists fun i hi => ⟨f2 i hi, by
    obtain ⟨_, _, _, _, _, _, _, _, _, hb⟩ := hget i hi
    exact hb⟩
  exact ⟨a', cap', rs, rfl, hl, hrs, fun w' hk => isPolygon_c s rs hrs _ _ w' (hs.kp hk)⟩

set_option maxRecDepth 100000 in
set_option maxHeartbeats 4000000 in
theorem lawPolys_walk (s : Sh) (lv pv : Value) (t : Sh) (lv' pv' : Value) (px py : Nat) (w : World) (hs : ShIn 4 w lv pv s) (ht : ShIn 4 w lv' pv' t) (bx : px < 2 ^ 64) (by' : py < 2 ^ 64) :
    Calls Tryz.prog 4 #[.agg #[.int .i64 s.kind, lv, pv], .agg #[.int .i64 t.kind, lv', pv'], .agg #[.float .f64 px, .float .f64 py]] w (Ret w (.bool true)) := by
  have h1 := fun w' (hk : Kp w w') => fits1_c 3 s lv pv w' (hs.kp hk)
  have h2 := fun w' (hk : Kp w w') => fits1_c 3 t lv' pv' w' (ht.kp hk)
  have hpt := fun w' => point_c px py bx by' w'
  obtain ⟨⟨a1, n1, c1, rfl⟩, a2, n2, c2, rfl⟩ := hs.form
  obtain ⟨⟨b1, m1, d1, rfl⟩, b2, m2, d2, rfl⟩ := ht.form
  cases hF : fitsB s
  · rw [hF] at h1
    have H1 := Lib.hid h1
    clear h1 h2 hF hs ht hpt
    go_enter Tryz.func4, Tryz.ntmps4
    go_wp2_with (go_at_call 6; (first | (with_reducible refine (Ret.at_ext (H1.out _ (by repeat (first | (with_reducible exact Kp.refl _) | (with_reducible assumption) | (with_reducible apply Kp.ext) | (with_reducible apply Kp.alloc) | (with_reducible apply Kp.drew) | (with_reducible apply Kp.drewN) | (with_reducible refine Kp.setCell ?_ (by first | (dsimp only; omega) | (simp; omega) | (simp; done) | (simp [size_ext_eq]; omega)) _))))).mono ?_) | (with_reducible refine (H1.out _ (by repeat (first | (with_reducible exact Kp.refl _) | (with_reducible assumption) | (with_reducible apply Kp.ext) | (with_reducible apply Kp.alloc) | (with_reducible apply Kp.drew) | (with_reducible apply Kp.drewN) | (with_reducible refine Kp.setCell ?_ (by first | (dsimp only; omega) | (simp; omega) | (simp; done) | (simp [size_ext_eq]; omega)) _)))).mono ?_)); rintro e w' ⟨rfl, u, rfl⟩)
    go_ret
    exact Ret.mk rfl (by repeat (first | (with_reducible exact Kp.refl _) | (with_reducible assumption) | (with_reducible apply Kp.ext) | (with_reducible apply Kp.alloc) | (with_reducible apply Kp.drew) | (with_reducible apply Kp.drewN) | (with_reducible refine Kp.setCell ?_ (by first | (dsimp only; omega) | (simp; omega) | (simp; done) | (simp [size_ext_eq]; omega)) _)))
  cases hF' : fitsB t
  · rw [hF] at h1
    rw [hF'] at h2
    have H1 := Lib.hid h1
    have H2 := Lib.hid h2
    clear h1 h2 hF hF' hs ht hpt
    go_enter Tryz.func4, Tryz.ntmps4
    go_wp2_with (first | (go_at_call 6; (first | (with_reducible refine (Ret.at_ext (H1.out _ (by repeat (first | (with_reducible exact Kp.refl _) | (with_reducible assumption) | (with_reducible apply Kp.ext) | (with_reducible apply Kp.alloc) | (with_reducible apply Kp.drew) | (with_reducible apply Kp.drewN) | (with_reducible refine Kp.setCell ?_ (by first | (dsimp only; omega) | (simp; omega) | (simp; done) | (simp [size_ext_eq]; omega)) _))))).mono ?_) | (with_reducible refine (H1.out _ (by repeat (first | (with_reducible exact Kp.refl _) | (with_reducible assumption) | (with_reducible apply Kp.ext) | (with_reducible apply Kp.alloc) | (with_reducible apply Kp.drew) | (with_reducible apply Kp.drewN) | (with_reducible refine Kp.setCell ?_ (by first | (dsimp only; omega) | (simp; omega) | (simp; done) | (simp [size_ext_eq]; omega)) _)))).mono ?_)); rintro e w' ⟨rfl, u, rfl⟩) | (go_at_call 6; (first | (with_reducible refine (Ret.at_ext (H2.out _ (by repeat (first | (with_reducible exact Kp.refl _) | (with_reducible assumption) | (with_reducible apply Kp.ext) | (with_reducible apply Kp.alloc) | (with_reducible apply Kp.drew) | (with_reducible apply Kp.drewN) | (with_reducible refine Kp.setCell ?_ (by first | (dsimp only; omega) | (simp; omega) | (simp; done) | (simp [size_ext_eq]; omega)) _))))).mono ?_) | (with_reducible refine (H2.out _ (by repeat (first | (with_reducible exact Kp.refl _) | (with_reducible assumption) | (with_reducible apply Kp.ext) | (with_reducible apply Kp.alloc) | (with_reducible apply Kp.drew) | (with_reducible apply Kp.drewN) | (with_reducible refine Kp.setCell ?_ (by first | (dsimp only; omega) | (simp; omega) | (simp; done) | (simp [size_ext_eq]; omega)) _)))).mono ?_)); rintro e w' ⟨rfl, u, rfl⟩))
    go_ret
    exact Ret.mk rfl (by repeat (first | (with_reducible exact Kp.refl _) | (with_reducible assumption) | (with_reducible apply Kp.ext) | (with_reducible apply Kp.alloc) | (with_reducible apply Kp.drew) | (with_reducible apply Kp.drewN) | (with_reducible refine Kp.setCell ?_ (by first | (dsimp only; omega) | (simp; omega) | (simp; done) | (simp [size_ext_eq]; omega)) _)))
  rw [hF] at h1
  rw [hF'] at h2
  have H1 := Lib.hid h1
  have H2 := Lib.hid h2
  obtain ⟨a', c', rs, hv, A⟩ := argSh s _ _ w hs hF
  obtain ⟨rfl, rfl, rfl⟩ : _ ∧ _ ∧ _ := by simpa using hv
  obtain ⟨b', d', qs, hv', B⟩ := argSh t _ _ w ht hF'
  obtain ⟨rfl, rfl, rfl⟩ : _ ∧ _ ∧ _ := by simpa using hv'
  have h3 := A.poly
  have h4 := B.poly
  cases hI : isPolyB s rs
  · rw [hI] at h3
    have H3 := Lib.hid h3
    clear h1 h2 h3 h4 hF hF' hs ht hpt A B hI hv hv'
    go_enter Tryz.func4, Tryz.ntmps4
    go_wp2_with (first | (go_at_call 6; (first | (with_reducible refine (Ret.at_ext (H1.out _ (by repeat (first | (with_reducible exact Kp.refl _) | (with_reducible assumption) | (with_reducible apply Kp.ext) | (with_reducible apply Kp.alloc) | (with_reducible apply Kp.drew) | (with_reducible apply Kp.drewN) | (with_reducible refine Kp.setCell ?_ (by first | (dsimp only; omega) | (simp; omega) | (simp; done) | (simp [size_ext_eq]; omega)) _))))).mono ?_) | (with_reducible refine (H1.out _ (by repeat (first | (with_reducible exact Kp.refl _) | (with_reducible assumption) | (with_reducible apply Kp.ext) | (with_reducible apply Kp.alloc) | (with_reducible apply Kp.drew) | (with_reducible apply Kp.drewN) | (with_reducible refine Kp.setCell ?_ (by first | (dsimp only; omega) | (simp; omega) | (simp; done) | (simp [size_ext_eq]; omega)) _)))).mono ?_)); rintro e w' ⟨rfl, u, rfl⟩) | (go_at_call 6; (first | (with_reducible refine (Ret.at_ext (H2.out _ (by repeat (first | (with_reducible exact Kp.refl _) | (with_reducible assumption) | (with_reducible apply Kp.ext) | (with_reducible apply Kp.alloc) | (with_reducible apply Kp.drew) | (with_reducible apply Kp.drewN) | (with_reducible refine Kp.setCell ?_ (by first | (dsimp only; omega) | (simp; omega) | (simp; done) | (simp [size_ext_eq]; omega)) _))))).mono ?_) | (with_reducible refine (H2.out _ (by repeat (first | (with_reducible exact Kp.refl _) | (with_reducible assumption) | (with_reducible apply Kp.ext) | (with_reducible apply Kp.alloc) | (with_reducible apply Kp.drew) | (with_reducible apply Kp.drewN) | (with_reducible refine Kp.setCell ?_ (by first | (dsimp only; omega) | (simp; omega) | (simp; done) | (simp [size_ext_eq]; omega)) _)))).mono ?_)); rintro e w' ⟨rfl, u, rfl⟩) | (go_at_call 7; (first | (with_reducible refine (Ret.at_ext (H3.out _ (by repeat (first | (with_reducible exact Kp.refl _) | (with_reducible assumption) | (with_reducible apply Kp.ext) | (with_reducible apply Kp.alloc) | (with_reducible apply Kp.drew) | (with_reducible apply Kp.drewN) | (with_reducible refine Kp.setCell ?_ (by first | (dsimp only; omega) | (simp; omega) | (simp; done) | (simp [size_ext_eq]; omega)) _))))).mono ?_) | (with_reducible refine (H3.out _ (by repeat (first | (with_reducible exact Kp.refl _) | (with_reducible assumption) | (with_reducible apply Kp.ext) | (with_reducible apply Kp.alloc) | (with_reducible apply Kp.drew) | (with_reducible apply Kp.drewN) | (with_reducible refine Kp.setCell ?_ (by first | (dsimp only; omega) | (simp; omega) | (simp; done) | (simp [size_ext_eq]; omega)) _)))).mono ?_)); rintro e w' ⟨rfl, u, rfl⟩) | (go_at_call 10; (first | (with_reducible refine (Ret.at_ext (measures_c _)).mono ?_) | (with_reducible refine (measures_c _).mono ?_)); rintro e w' ⟨rfl, u, rfl⟩))
    go_ret
    exact Ret.mk rfl (by repeat (first | (with_reducible exact Kp.refl _) | (with_reducible assumption) | (with_reducible apply Kp.ext) | (with_reducible apply Kp.alloc) | (with_reducible apply Kp.drew) | (with_reducible apply Kp.drewN) | (with_reducible refine Kp.setCell ?_ (by first | (dsimp only; omega) | (simp; omega) | (simp; done) | (simp [size_ext_eq]; omega)) _)))
  cases hI' : isPolyB t qs
  · rw [hI] at h3
    rw [hI'] at h4
    have H3 := Lib.hid h3
    have H4 := Lib.hid h4
    clear h1 h2 h3 h4 hF hF' hs ht hpt A B hI hI' hv hv'
    go_enter Tryz.func4, Tryz.ntmps4
    go_wp2_with (first | (go_at_call 6; (first | (with_reducible refine (Ret.at_ext (H1.out _ (by repeat (first | (with_reducible exact Kp.refl _) | (with_reducible assumption) | (with_reducible apply Kp.ext) | (with_reducible apply Kp.alloc) | (with_reducible apply Kp.drew) | (with_reducible apply Kp.drewN) | (with_reducible refine Kp.setCell ?_ (by first | (dsimp only; omega) | (simp; omega) | (simp; done) | (simp [size_ext_eq]; omega)) _))))).mono ?_) | (with_reducible refine (H1.out _ (by repeat (first | (with_reducible exact Kp.refl _) | (with_reducible assumption) | (with_reducible apply Kp.ext) | (with_reducible apply Kp.alloc) | (with_reducible apply Kp.drew) | (with_reducible apply Kp.drewN) | (with_reducible refine Kp.setCell ?_ (by first | (dsimp only; omega) | (simp; omega) | (simp; done) | (simp [size_ext_eq]; omega)) _)))).mono ?_)); rintro e w' ⟨rfl, u, rfl⟩) | (go_at_call 6; (first | (with_reducible refine (Ret.at_ext (H2.out _ (by repeat (first | (with_reducible exact Kp.refl _) | (with_reducible assumption) | (with_reducible apply Kp.ext) | (with_reducible apply Kp.alloc) | (with_reducible apply Kp.drew) | (with_reducible apply Kp.drewN) | (with_reducible refine Kp.setCell ?_ (by first | (dsimp only; omega) | (simp; omega) | (simp; done) | (simp [size_ext_eq]; omega)) _))))).mono ?_) | (with_reducible refine (H2.out _ (by repeat (first | (with_reducible exact Kp.refl _) | (with_reducible assumption) | (with_reducible apply Kp.ext) | (with_reducible apply Kp.alloc) | (with_reducible apply Kp.drew) | (with_reducible apply Kp.drewN) | (with_reducible refine Kp.setCell ?_ (by first | (dsimp only; omega) | (simp; omega) | (simp; done) | (simp [size_ext_eq]; omega)) _)))).mono ?_)); rintro e w' ⟨rfl, u, rfl⟩) | (go_at_call 7; (first | (with_reducible refine (Ret.at_ext (H3.out _ (by repeat (first | (with_reducible exact Kp.refl _) | (with_reducible assumption) | (with_reducible apply Kp.ext) | (with_reducible apply Kp.alloc) | (with_reducible apply Kp.drew) | (with_reducible apply Kp.drewN) | (with_reducible refine Kp.setCell ?_ (by first | (dsimp only; omega) | (simp; omega) | (simp; done) | (simp [size_ext_eq]; omega)) _))))).mono ?_) | (with_reducible refine (H3.out _ (by repeat (first | (with_reducible exact Kp.refl _) | (with_reducible assumption) | (with_reducible apply Kp.ext) | (with_reducible apply Kp.alloc) | (with_reducible apply Kp.drew) | (with_reducible apply Kp.drewN) | (with_reducible refine Kp.setCell ?_ (by first | (dsimp only; omega) | (simp; omega) | (simp; done) | (simp [size_ext_eq]; omega)) _)))).mono ?_)); rintro e w' ⟨rfl, u, rfl⟩) | (go_at_call 7; (first | (with_reducible refine (Ret.at_ext (H4.out _ (by repeat (first | (with_reducible exact Kp.refl _) | (with_reducible assumption) | (with_reducible apply Kp.ext) | (with_reducible apply Kp.alloc) | (with_reducible apply Kp.drew) | (with_reducible apply Kp.drewN) | (with_reducible refine Kp.setCell ?_ (by first | (dsimp only; omega) | (simp; omega) | (simp; done) | (simp [size_ext_eq]; omega)) _))))).mono ?_) | (with_reducible refine (H4.out _ (by repeat (first | (with_reducible exact Kp.refl _) | (with_reducible assumption) | (with_reducible apply Kp.ext) | (with_reducible apply Kp.alloc) | (with_reducible apply Kp.drew) | (with_reducible apply Kp.drewN) | (with_reducible refine Kp.setCell ?_ (by first | (dsimp only; omega) | (simp; omega) | (simp; done) | (simp [size_ext_eq]; omega)) _)))).mono ?_)); rintro e w' ⟨rfl, u, rfl⟩) | (go_at_call 10; (first | (with_reducible refine (Ret.at_ext (measures_c _)).mono ?_) | (with_reducible refine (measures_c _).mono ?_)); rintro e w' ⟨rfl, u, rfl⟩))
    go_ret
    exact Ret.mk rfl (by repeat (first | (with_reducible exact Kp.refl _) | (with_reducible assumption) | (with_reducible apply Kp.ext) | (with_reducible apply Kp.alloc) | (with_reducible apply Kp.drew) | (with_reducible apply Kp.drewN) | (with_reducible refine Kp.setCell ?_ (by first | (dsimp only; omega) | (simp; omega) | (simp; done) | (simp [size_ext_eq]; omega)) _)))
  rw [hI] at h3
  rw [hI'] at h4
  cases hb : pointB px py
  · rw [hb] at hpt
    have H3 := Lib.hid h3
    have H4 := Lib.hid h4
    have Hp := Lib.hid hpt
    clear h1 h2 h3 h4 hF hF' hs ht hpt A B hI hI' hb hv hv'
    go_enter Tryz.func4, Tryz.ntmps4
    go_wp2_with (first | (go_at_call 6; (first | (with_reducible refine (Ret.at_ext (H1.out _ (by repeat (first | (with_reducible exact Kp.refl _) | (with_reducible assumption) | (with_reducible apply Kp.ext) | (with_reducible apply Kp.alloc) | (with_reducible apply Kp.drew) | (with_reducible apply Kp.drewN) | (with_reducible refine Kp.setCell ?_ (by first | (dsimp only; omega) | (simp; omega) | (simp; done) | (simp [size_ext_eq]; omega)) _))))).mono ?_) | (with_reducible refine (H1.out _ (by repeat (first | (with_reducible exact Kp.refl _) | (with_reducible assumption) | (with_reducible apply Kp.ext) | (with_reducible apply Kp.alloc) | (with_reducible apply Kp.drew) | (with_reducible apply Kp.drewN) | (with_reducible refine Kp.setCell ?_ (by first | (dsimp only; omega) | (simp; omega) | (simp; done) | (simp [size_ext_eq]; omega)) _)))).mono ?_)); rintro e w' ⟨rfl, u, rfl⟩) | (go_at_call 6; (first | (with_reducible refine (Ret.at_ext (H2.out _ (by repeat (first | (with_reducible exact Kp.refl _) | (with_reducible assumption) | (with_reducible apply Kp.ext) | (with_reducible apply Kp.alloc) | (with_reducible apply Kp.drew) | (with_reducible apply Kp.drewN) | (with_reducible refine Kp.setCell ?_ (by first | (dsimp only; omega) | (simp; omega) | (simp; done) | (simp [size_ext_eq]; omega)) _))))).mono ?_) | (with_reducible refine (H2.out _ (by repeat (first | (with_reducible exact Kp.refl _) | (with_reducible assumption) | (with_reducible apply Kp.ext) | (with_reducible apply Kp.alloc) | (with_reducible apply Kp.drew) | (with_reducible apply Kp.drewN) | (with_reducible refine Kp.setCell ?_ (by first | (dsimp only; omega) | (simp; omega) | (simp; done) | (simp [size_ext_eq]; omega)) _)))).mono ?_)); rintro e w' ⟨rfl, u, rfl⟩) | (go_at_call 7; (first | (with_reducible refine (Ret.at_ext (H3.out _ (by repeat (first | (with_reducible exact Kp.refl _) | (with_reducible assumption) | (with_reducible apply Kp.ext) | (with_reducible apply Kp.alloc) | (with_reducible apply Kp.drew) | (with_reducible apply Kp.drewN) | (with_reducible refine Kp.setCell ?_ (by first | (dsimp only; omega) | (simp; omega) | (simp; done) | (simp [size_ext_eq]; omega)) _))))).mono ?_) | (with_reducible refine (H3.out _ (by repeat (first | (with_reducible exact Kp.refl _) | (with_reducible assumption) | (with_reducible apply Kp.ext) | (with_reducible apply Kp.alloc) | (with_reducible apply Kp.drew) | (with_reducible apply Kp.drewN) | (with_reducible refine Kp.setCell ?_ (by first | (dsimp only; omega) | (simp; omega) | (simp; done) | (simp [size_ext_eq]; omega)) _)))).mono ?_)); rintro e w' ⟨rfl, u, rfl⟩) | (go_at_call 7; (first | (with_reducible refine (Ret.at_ext (H4.out _ (by repeat (first | (with_reducible exact Kp.refl _) | (with_reducible assumption) | (with_reducible apply Kp.ext) | (with_reducible apply Kp.alloc) | (with_reducible apply Kp.drew) | (with_reducible apply Kp.drewN) | (with_reducible refine Kp.setCell ?_ (by first | (dsimp only; omega) | (simp; omega) | (simp; done) | (simp [size_ext_eq]; omega)) _))))).mono ?_) | (with_reducible refine (H4.out _ (by repeat (first | (with_reducible exact Kp.refl _) | (with_reducible assumption) | (with_reducible apply Kp.ext) | (with_reducible apply Kp.alloc) | (with_reducible apply Kp.drew) | (with_reducible apply Kp.drewN) | (with_reducible refine Kp.setCell ?_ (by first | (dsimp only; omega) | (simp; omega) | (simp; done) | (simp [size_ext_eq]; omega)) _)))).mono ?_)); rintro e w' ⟨rfl, u, rfl⟩) | (go_at_call 8; (first | (with_reducible refine (Ret.at_ext (Hp.out _)).mono ?_) | (with_reducible refine (Hp.out _).mono ?_)); rintro e w' ⟨rfl, u, rfl⟩) | (go_at_call 10; (first | (with_reducible refine (Ret.at_ext (measures_c _)).mono ?_) | (with_reducible refine (measures_c _).mono ?_)); rintro e w' ⟨rfl, u, rfl⟩))
    go_ret
    exact Ret.mk rfl (by repeat (first | (with_reducible exact Kp.refl _) | (with_reducible assumption) | (with_reducible apply Kp.ext) | (with_reducible apply Kp.alloc) | (with_reducible apply Kp.drew) | (with_reducible apply Kp.drewN) | (with_reducible refine Kp.setCell ?_ (by first | (dsimp only; omega) | (simp; omega) | (simp; done) | (simp [size_ext_eq]; omega)) _)))
  obtain ⟨p, hp⟩ := pointB_w bx by' hb
  rw [hb] at hpt
  obtain ⟨_, k0, k6, Ps, hR⟩ := isPoly_facts A.simple hI
  obtain ⟨_, j0, j6, Qs, hQ⟩ := isPoly_facts B.simple hI'
  exact polys_last s t a1 a2 b1 b2 c1 n2 c2 d1 m2 d2 w A.lists B.lists k0 k6 j0 j6 Ps Qs hR hQ px py p hp h1 h2 h3 h4 hpt
end Go.Proofs.YtnmdgdmnmoghhaaGreatDoor
