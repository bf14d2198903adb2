/-
  impl.KeepByAreas, impl.ByAreas, impl.Radial, walked.
-/
import Derived.Test.YtglopopdmkgooaaSim
namespace Go.Proofs.Ytglopopdmkgooaa
open PubFl Go.RowKit PubVis

attribute [local go_sem] cell_ext frozen_ext ext_setCell cell_store size_ext_eq lt_p0 lt_p1 lt_p2 lt_p3 lt_p4 lt_p5 lt_p6 lt_p7 lt_p8 lt_p9 lt_p10 lt_p11 lt_p12 lt_p13 lt_p14 lt_p15 lt_p16 lt_p17 lt_p18 lt_p19 lt_p20 lt_p21 lt_p22 lt_p23 lt_p24 lt_p25 lt_p26 lt_p27 lt_p28 lt_p29 lt_p30 lt_p31 lt_p32 lt_q1 lt_q2 lt_q3 lt_q4 lt_q5 lt_q6 lt_q7 lt_q8 lt_q9 lt_q10 lt_q11 lt_q12 lt_q13 lt_q14 lt_q15 lt_q16 lt_q17 lt_q18 lt_q19 lt_q20 lt_q21 lt_q22 lt_q23 lt_q24 lt_q25 lt_q26 lt_q27 lt_q28 lt_q29 lt_q30 lt_q31 lt_q32 run_fop run_store_float
attribute [local go_sem high] cmp_eql cmp_neq cmp_lss cmp_leq cmp_gtr cmp_geq

theorem visvalingam_c (t k : Nat) (w : World) : Calls Try.prog 28 #[.float .f64 t, .int .i64 (k : Nat)] w (fun e w' => e = .returned (.pointer (some ⟨w.heap.size, 0, none⟩)) ∧ w' = w.alloc (.cells #[.float .f64 t, .int .i64 (k : Nat)] 65)) := by
  go_enter Try.func28, Try.ntmps28
  go_wp2_with fail
  go_ret
  exact ⟨rfl, rfl⟩
theorem visvalingamKeep_c (k : Nat) (w : World) : Calls Try.prog 22 #[.int .i64 (k : Nat)] w (fun e w' => e = .returned (.pointer (some ⟨w.heap.size, 0, none⟩)) ∧ w' = w.alloc (.cells #[.float .f64 9218868437227405311, .int .i64 (k : Nat)] 65)) := by
  go_enter Try.func22, Try.ntmps22
  go_wp2_with (go_at_call 28; (with_reducible refine (visvalingam_c _ _ _).mono ?_); rintro e w1 ⟨rfl, rfl⟩)
  go_ret
  exact ⟨rfl, rfl⟩
theorem maxf_twice : FOk .mul 9218868437227405311 4611686018427387904 ∧ fop .mul 9218868437227405311 4611686018427387904 = infF := by
  constructor
  · unfold FOk; decide +kernel
  · decide +kernel
/-- a new list of points, of which something holds -/
def RetP' (w : World) (e : TypeId) (P : List (Nat × Nat) → Prop) (en : Ending) (w' : World) : Prop := ∃ out, P out ∧ RetO w e out en w'
theorem visOut_length {ps : List (Nat × Nat)} {tri : Nat → Nat → Nat → Int} {thr : Int} {keep : Nat} {out : List (Nat × Nat)} (h : VisOut ps tri thr keep out) : out.length ≤ ps.length := by
  obtain ⟨L, _, rfl⟩ := h
  rw [List.length_map, kept_length]; exact cnt_le _ _

set_option maxRecDepth 20000 in
set_option maxHeartbeats 1000000 in
theorem keepByAreas_c (a : Option Addr) (cap keep : Nat) (ps : List (Nat × Nat)) (tri : Nat → Nat → Nat → Int) (h2 : 2 ≤ keep) (T : TriH ps tri) (hn : ps.length ≤ 1000) (h1 : 2 ≤ ps.length) (w : World) (hs : PtsIn w a ps) :
    Calls Try.prog 9 #[.slice a ps.length cap, .int .i64 (keep : Nat)] w (RetP' w 34 (VisOut ps tri infK keep)) := by
  have P1 := Lib.hid (fun w' (hk : Kp w w') => pointsOf_c a cap ps (by omega) w' (hs.kp hk))
  have HT := Lib.hid T
  clear T
  clear hs
  go_enter Try.func9, Try.ntmps9
  go_wp2_with (first | (go_at_call 22; (with_reducible refine (visvalingamKeep_c _ _).mono ?_); rintro e w1 ⟨rfl, rfl⟩) | (go_at_call 24; (with_reducible refine (P1.out _ (by repeat (first | (with_reducible exact Kp.refl _) | (with_reducible assumption) | (with_reducible apply Kp.ext) | (with_reducible apply Kp.alloc) | (with_reducible apply Kp.drew) | (with_reducible apply Kp.drewN) | (with_reducible refine Kp.setCell ?_ (by first | (dsimp only; omega) | (simp; omega) | (simp; done) | (simp [size_ext_eq]; omega)) _)))).mono ?_); rintro e w2 ⟨v, u, rfl, hu, hpn⟩))
  have c0 : (w.alloc (.cells #[.float .f64 9218868437227405311, .int .i64 (keep : Nat)] 65)).cell? ⟨w.heap.size, 0, none⟩ = some (.float .f64 9218868437227405311) := by simp
  have c1 : (w.alloc (.cells #[.float .f64 9218868437227405311, .int .i64 (keep : Nat)] 65)).cell? ⟨w.heap.size, 1, none⟩ = some (.int .i64 (keep : Nat)) := by simp
  have k1 : Kp w (w.alloc (.cells #[.float .f64 9218868437227405311, .int .i64 (keep : Nat)] 65)) := (by repeat (first | (with_reducible exact Kp.refl _) | (with_reducible assumption) | (with_reducible apply Kp.ext) | (with_reducible apply Kp.alloc) | (with_reducible apply Kp.drew) | (with_reducible apply Kp.drewN) | (with_reducible refine Kp.setCell ?_ (by first | (dsimp only; omega) | (simp; omega) | (simp; done) | (simp [size_ext_eq]; omega)) _)))
  have s1 : (w.alloc (.cells #[.float .f64 9218868437227405311, .int .i64 (keep : Nat)] 65)).heap.size = w.heap.size + 1 := by simp
  generalize w.alloc (.cells #[.float .f64 9218868437227405311, .int .i64 (keep : Nat)] 65) = W1 at *
  have k2 : Kp W1 w2 := by rw [hu]; exact (Kp.refl _).ext u
  rw [← hu]
  clear hu
  have c0' := Kp.cell k2 c0 (by omega)
  have c1' := Kp.cell k2 c1 (by omega)
  obtain ⟨g, cap', rfl, hg1, hg2, hcap, _, hq⟩ := hpn.form (by omega)
  have hfz := hpn.frozenAt
  have HL := Lib.hid (lsV_c w.heap.size g cap' (VisOut ps tri infK keep) ps hn (fun h => visOut_all h1 (by omega)) w2 hq (fun _ => vis_any w.heap.size g cap' keep infK ps tri hn h1 h2 hcap w2 (by omega) hg2 _ c0' c1' maxf_twice.1 (by rw [maxf_twice.2]; exact av_inf) hq hfz HT.out false))
  have HK := Lib.hid (k1.trans k2)
  have hW1 : w.heap.size ≤ W1.heap.size := by omega
  clear hpn hq hfz c0 c1 c0' c1' hcap s1 k1 k2
  go_wp2_with (go_at_call 23; (with_reducible refine (HL.out).mono ?_); rintro e w3 ⟨out, hP, rfl, hb, hz, hp⟩; have HP := Lib.hid hP; have HB := Lib.hid hb; have HP3 := Lib.hid hp; clear hP hb hp)
  have P3 := listOf_c (some ⟨g, 0, none⟩) cap' out (by have := visOut_length HP.out; omega) w3 (.inr ⟨g, 0, rfl, by omega, HP3.out⟩)
  have HK3 := Lib.hid (show Kp w w3 from kp_trans' HK.out HB.out (Nat.le_trans hW1 hg1))
  clear HB HP3
  go_wp2_with (go_at_call 21; (with_reducible refine (P3).mono ?_); rintro e w4 ⟨v4, u4, rfl, hu4, hp4⟩; have HP4 := Lib.hid hp4; have HU4 := Lib.hid hu4; clear hp4 hu4)
  go_ret
  exact ⟨out, HP.out, RetO.mk rfl (by rw [HU4.out]; exact HK3.out.ext u4) (HP4.out.wide HK3.out.size)⟩

set_option maxRecDepth 20000 in
set_option maxHeartbeats 1000000 in
theorem byAreas_c (a : Option Addr) (cap t keep : Nat) (ps : List (Nat × Nat)) (tri : Nat → Nat → Nat → Int) (thr : Int) (h2 : 2 ≤ keep) (T : TriH ps tri) (ot : FOk .mul t 4611686018427387904) (hthr : AV (fop .mul t 4611686018427387904) thr) (hn : ps.length ≤ 1000) (h1 : 2 ≤ ps.length) (w : World) (hs : PtsIn w a ps) :
    Calls Try.prog 13 #[.slice a ps.length cap, .float .f64 t, .int .i64 (keep : Nat)] w (RetP' w 34 (VisOut ps tri thr keep)) := by
  have P1 := Lib.hid (fun w' (hk : Kp w w') => pointsOf_c a cap ps (by omega) w' (hs.kp hk))
  have HT := Lib.hid T
  have Hth := Lib.hid hthr
  clear T hthr
  clear hs
  go_enter Try.func13, Try.ntmps13
  go_wp2_with (first | (go_at_call 28; (with_reducible refine (visvalingam_c _ _ _).mono ?_); rintro e w1 ⟨rfl, rfl⟩) | (go_at_call 24; (with_reducible refine (P1.out _ (by repeat (first | (with_reducible exact Kp.refl _) | (with_reducible assumption) | (with_reducible apply Kp.ext) | (with_reducible apply Kp.alloc) | (with_reducible apply Kp.drew) | (with_reducible apply Kp.drewN) | (with_reducible refine Kp.setCell ?_ (by first | (dsimp only; omega) | (simp; omega) | (simp; done) | (simp [size_ext_eq]; omega)) _)))).mono ?_); rintro e w2 ⟨v, u, rfl, hu, hpn⟩))
  have c0 : (w.alloc (.cells #[.float .f64 t, .int .i64 (keep : Nat)] 65)).cell? ⟨w.heap.size, 0, none⟩ = some (.float .f64 t) := by simp
  have c1 : (w.alloc (.cells #[.float .f64 t, .int .i64 (keep : Nat)] 65)).cell? ⟨w.heap.size, 1, none⟩ = some (.int .i64 (keep : Nat)) := by simp
  have k1 : Kp w (w.alloc (.cells #[.float .f64 t, .int .i64 (keep : Nat)] 65)) := (by repeat (first | (with_reducible exact Kp.refl _) | (with_reducible assumption) | (with_reducible apply Kp.ext) | (with_reducible apply Kp.alloc) | (with_reducible apply Kp.drew) | (with_reducible apply Kp.drewN) | (with_reducible refine Kp.setCell ?_ (by first | (dsimp only; omega) | (simp; omega) | (simp; done) | (simp [size_ext_eq]; omega)) _)))
  have s1 : (w.alloc (.cells #[.float .f64 t, .int .i64 (keep : Nat)] 65)).heap.size = w.heap.size + 1 := by simp
  generalize w.alloc (.cells #[.float .f64 t, .int .i64 (keep : Nat)] 65) = W1 at *
  have k2 : Kp W1 w2 := by rw [hu]; exact (Kp.refl _).ext u
  rw [← hu]
  clear hu
  have c0' := Kp.cell k2 c0 (by omega)
  have c1' := Kp.cell k2 c1 (by omega)
  obtain ⟨g, cap', rfl, hg1, hg2, hcap, _, hq⟩ := hpn.form (by omega)
  have hfz := hpn.frozenAt
  have HL := Lib.hid (lsV_c w.heap.size g cap' (VisOut ps tri thr keep) ps hn (fun h => visOut_all h1 (by omega)) w2 hq (fun _ => vis_any w.heap.size g cap' keep thr ps tri hn h1 h2 hcap w2 (by omega) hg2 _ c0' c1' ot Hth.out hq hfz HT.out false))
  have HK := Lib.hid (k1.trans k2)
  have hW1 : w.heap.size ≤ W1.heap.size := by omega
  clear hpn hq hfz c0 c1 c0' c1' hcap s1 k1 k2
  go_wp2_with (go_at_call 23; (with_reducible refine (HL.out).mono ?_); rintro e w3 ⟨out, hP, rfl, hb, hz, hp⟩; have HP := Lib.hid hP; have HB := Lib.hid hb; have HP3 := Lib.hid hp; clear hP hb hp)
  have P3 := listOf_c (some ⟨g, 0, none⟩) cap' out (by have := visOut_length HP.out; omega) w3 (.inr ⟨g, 0, rfl, by omega, HP3.out⟩)
  have HK3 := Lib.hid (show Kp w w3 from kp_trans' HK.out HB.out (Nat.le_trans hW1 hg1))
  clear HB HP3
  go_wp2_with (go_at_call 21; (with_reducible refine (P3).mono ?_); rintro e w4 ⟨v4, u4, rfl, hu4, hp4⟩; have HP4 := Lib.hid hp4; have HU4 := Lib.hid hu4; clear hp4 hu4)
  go_ret
  exact ⟨out, HP.out, RetO.mk rfl (by rw [HU4.out]; exact HK3.out.ext u4) (HP4.out.wide HK3.out.size)⟩

theorem radialNew_c (t : Nat) (w : World) : Calls Try.prog 32 #[.func (.func 33) #[] #[], .float .f64 t] w (fun e w' => e = .returned (.pointer (some ⟨w.heap.size, 0, none⟩)) ∧ w' = w.alloc (.cells #[.func (.func 33) #[] #[], .float .f64 t] 68)) := by
  go_enter Try.func32, Try.ntmps32
  go_wp2_with fail
  go_ret
  exact ⟨rfl, rfl⟩
theorem radOut_length {far : Nat → Nat → Bool} {ps out : List (Nat × Nat)} (h : out = radOut far ps) : out.length ≤ ps.length + 1 := by
  subst h
  have ok := radAt_ok far ps (ps.length - 1)
  have h1 := ok.k_le
  have h2 := ok.c_le
  unfold radOut
  split
  · omega
  · rw [List.length_append, List.length_singleton]; omega

set_option maxRecDepth 20000 in
set_option maxHeartbeats 1000000 in
theorem radial_c (a : Option Addr) (cap t : Nat) (ps : List (Nat × Nat)) (far : Nat → Nat → Bool) (F : FarOk ps t far) (hno : ps.length ≤ 2 → radOut far ps = ps) (hn : ps.length ≤ 1000) (h1 : 2 ≤ ps.length) (w : World) (hs : PtsIn w a ps) :
    Calls Try.prog 17 #[.slice a ps.length cap, .float .f64 t] w (RetP' w 34 (fun out => out = radOut far ps)) := by
  have P1 := Lib.hid (fun w' (hk : Kp w w') => pointsOf_c a cap ps (by omega) w' (hs.kp hk))
  have HF := Lib.hid F
  have HN := Lib.hid hno
  clear F hno
  clear hs
  go_enter Try.func17, Try.ntmps17
  go_wp2_with (first | (go_at_call 32; (with_reducible refine (radialNew_c _ _).mono ?_); rintro e w1 ⟨rfl, rfl⟩) | (go_at_call 24; (with_reducible refine (P1.out _ (by repeat (first | (with_reducible exact Kp.refl _) | (with_reducible assumption) | (with_reducible apply Kp.ext) | (with_reducible apply Kp.alloc) | (with_reducible apply Kp.drew) | (with_reducible apply Kp.drewN) | (with_reducible refine Kp.setCell ?_ (by first | (dsimp only; omega) | (simp; omega) | (simp; done) | (simp [size_ext_eq]; omega)) _)))).mono ?_); rintro e w2 ⟨v, u, rfl, hu, hpn⟩))
  have c0 : (w.alloc (.cells #[.func (.func 33) #[] #[], .float .f64 t] 68)).cell? ⟨w.heap.size, 0, none⟩ = some (.func (.func 33) #[] #[]) := by simp
  have c1 : (w.alloc (.cells #[.func (.func 33) #[] #[], .float .f64 t] 68)).cell? ⟨w.heap.size, 1, none⟩ = some (.float .f64 t) := by simp
  have k1 : Kp w (w.alloc (.cells #[.func (.func 33) #[] #[], .float .f64 t] 68)) := (by repeat (first | (with_reducible exact Kp.refl _) | (with_reducible assumption) | (with_reducible apply Kp.ext) | (with_reducible apply Kp.alloc) | (with_reducible apply Kp.drew) | (with_reducible apply Kp.drewN) | (with_reducible refine Kp.setCell ?_ (by first | (dsimp only; omega) | (simp; omega) | (simp; done) | (simp [size_ext_eq]; omega)) _)))
  have s1 : (w.alloc (.cells #[.func (.func 33) #[] #[], .float .f64 t] 68)).heap.size = w.heap.size + 1 := by simp
  generalize w.alloc (.cells #[.func (.func 33) #[] #[], .float .f64 t] 68) = W1 at *
  have k2 : Kp W1 w2 := by rw [hu]; exact (Kp.refl _).ext u
  rw [← hu]
  clear hu
  have c0' := Kp.cell k2 c0 (by omega)
  have c1' := Kp.cell k2 c1 (by omega)
  obtain ⟨g, cap', rfl, hg1, hg2, hcap, _, hq⟩ := hpn.form (by omega)
  have hfz := hpn.frozenAt
  have HL := Lib.hid (lsR_c w.heap.size g cap' (fun out => out = radOut far ps) ps hn (fun h => (HN.out h).symm) w2 hq (fun _ => (radSimplify_c w.heap.size g cap' t ps far hn h1 hcap w2 (by omega) hg2 c0' c1' hq hfz HF.out false).mono fun e w' h => ⟨_, rfl, h⟩))
  have HK := Lib.hid (k1.trans k2)
  have hW1 : w.heap.size ≤ W1.heap.size := by omega
  clear hpn hq hfz c0 c1 c0' c1' hcap s1 k1 k2
  go_wp2_with (go_at_call 34; (with_reducible refine (HL.out).mono ?_); rintro e w3 ⟨out, hP, rfl, hb, hz, hp⟩; have HP := Lib.hid hP; have HB := Lib.hid hb; have HP3 := Lib.hid hp; clear hP hb hp)
  have P3 := listOf_c (some ⟨g, 0, none⟩) cap' out (by have := radOut_length HP.out; omega) w3 (.inr ⟨g, 0, rfl, by omega, HP3.out⟩)
  have HK3 := Lib.hid (show Kp w w3 from kp_trans' HK.out HB.out (Nat.le_trans hW1 hg1))
  clear HB HP3
  go_wp2_with (go_at_call 21; (with_reducible refine (P3).mono ?_); rintro e w4 ⟨v4, u4, rfl, hu4, hp4⟩; have HP4 := Lib.hid hp4; have HU4 := Lib.hid hu4; clear hp4 hu4)
  go_ret
  exact ⟨out, HP.out, RetO.mk rfl (by rw [HU4.out]; exact HK3.out.ext u4) (HP4.out.wide HK3.out.size)⟩
end Go.Proofs.Ytglopopdmkgooaa
