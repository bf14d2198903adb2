/-
  impl.Same and spec.Equal of two shapes.
-/
import Derived.Test.YtohidpmkoehmcaaGreatOrbEq4
import Derived.Test.YtohidpmkoehmcaaGreatSpecEq
import Derived.Deep.RegionHeld3
import Derived.Deep.DrawnRows
namespace Go.Proofs.YtohidpmkoehmcaaGreat
open PubFl Go.RowKit

attribute [local go_sem] cell_ext frozen_ext ext_setCell cell_store size_ext_eq lt_p0 lt_p1 lt_p2 lt_p3 lt_p4 lt_p5 lt_p6 lt_p7 lt_p8 lt_p9 lt_p10 lt_p11 lt_p12 lt_p13 lt_p14 lt_p15 lt_p16 lt_p17 lt_p18 lt_p19 lt_p20 lt_p21 lt_p22 lt_p23 lt_p24 lt_p25 lt_p26 lt_p27 lt_p28 lt_p29 lt_p30 lt_p31 lt_p32 lt_q1 lt_q2 lt_q3 lt_q4 lt_q5 lt_q6 lt_q7 lt_q8 lt_q9 lt_q10 lt_q11 lt_q12 lt_q13 lt_q14 lt_q15 lt_q16 lt_q17 lt_q18 lt_q19 lt_q20 lt_q21 lt_q22 lt_q23 lt_q24 lt_q25 lt_q26 lt_q27 lt_q28 lt_q29 lt_q30 lt_q31 lt_q32 run_fop run_store_float
attribute [local go_sem high] cmp_eql cmp_neq cmp_lss cmp_leq cmp_gtr cmp_geq

theorem specEq_c : ∀ (d : Nat) (a b : Sh) (lv pv lv' pv' : Value) (w : World), ShIn d w lv pv a → ShIn d w lv' pv' b → cntOk d a = true → cntOk d b = true →
    Calls Tryz.prog 8 #[.agg #[.int .i64 a.kind, lv, pv], .agg #[.int .i64 b.kind, lv', pv']] w (Ret w (.bool (eqSh d a b)))
  | 0, _, _, _, _, _, _, _, _, _, h, _ => by cases h
  | d + 1, a, b, lv, pv, lv', pv', w, ha, hb, oka, okb =>
    specEq_step d a b lv pv lv' pv' w ha hb _ (eq_facts d a b) fun i h h' lv pv lv' pv' w ga gb => specEq_c d _ _ lv pv lv' pv' w ga gb ((cntOk_parts oka).2.1 _ (List.getElem_mem h)).1 ((cntOk_parts okb).2.1 _ (List.getElem_mem h')).1

set_option maxRecDepth 100000 in
set_option maxHeartbeats 2000000 in
theorem same_c (a b : Sh) (lv pv lv' pv' : Value) (w : World) (ha : ShIn 4 w lv pv a) (hb : ShIn 4 w lv' pv' b) (oka : isShB a = true) (okb : isShB b = true) :
    Calls Tryz.prog 16 #[.agg #[.int .i64 a.kind, lv, pv], .agg #[.int .i64 b.kind, lv', pv']] w (Ret w (.bool (eqSh 4 a b))) := by
  have HE := Lib.hid (fun lo hi lo' hi' va vb w' (h1 : GeoB 4 lo hi w' va a) (h2 : GeoB 4 lo' hi' w' vb b) h3 h4 => orbEqual_c 4 a b lo hi lo' hi' va vb w' h1 h2 h3 h4 (isSh_facts oka).1 (isSh_facts okb).1 (isSh_facts oka).2 (isSh_facts okb).2)
  obtain ⟨⟨p1, n1, c1, rfl⟩, p2, n2, c2, rfl⟩ := ha.form
  obtain ⟨⟨q1, m1, d1, rfl⟩, q2, m2, d2, rfl⟩ := hb.form
  obtain ⟨ka, hka⟩ : ∃ k, a.kind = k := ⟨_, rfl⟩
  obtain ⟨kb, hkb⟩ : ∃ k, b.kind = k := ⟨_, rfl⟩
  generalize eqSh 4 a b = r at *
  have hA := fun w' (hk : Kp w w') => geometry_c 4 a _ _ w' (ha.kp hk) (isSh_facts oka).1 (isSh_facts oka).2
  have hB := fun w' (hk : Kp w w') => geometry_c 4 b _ _ w' (hb.kp hk) (isSh_facts okb).1 (isSh_facts okb).2
  rw [hka] at hA
  rw [hkb] at hB
  rw [hka, hkb]
  have HA := Lib.hid hA
  have HB := Lib.hid hB
  clear ha hb oka okb hka hkb hA hB
  go_enter Tryz.func16, Tryz.ntmps16
  go_wp2_with fail
  go_region_held3 (fun w' => (w'.cell? ⟨w.heap.size, 0, none⟩ = some (.int .i64 ka) ∧ w'.cell? ⟨w.heap.size, 1, none⟩ = some (.slice p1 n1 c1) ∧ w'.cell? ⟨w.heap.size, 2, none⟩ = some (.slice p2 n2 c2)) ∧ (w'.cell? ⟨w.heap.size + 1, 0, none⟩ = some (.int .i64 kb) ∧ w'.cell? ⟨w.heap.size + 1, 1, none⟩ = some (.slice q1 m1 d1) ∧ w'.cell? ⟨w.heap.size + 1, 2, none⟩ = some (.slice q2 m2 d2))) (simp [go_sem])
    (first | (go_at_call 17; (with_reducible refine (HA.out _ (by repeat (first | (with_reducible exact Kp.refl _) | (with_reducible assumption) | (with_reducible apply Kp.ext) | (with_reducible apply Kp.alloc) | (with_reducible apply Kp.drew) | (with_reducible apply Kp.drewN) | (with_reducible refine Kp.setCell ?_ (by first | (dsimp only; omega) | (simp; omega) | (simp; done) | (simp [size_ext_eq]; omega)) _)))).mono ?_); rintro e w1 ⟨va, ua, rfl, rfl, hga⟩; obtain ⟨ta, xa, rfl⟩ := GeoB.ifc hga; have Hga := Lib.hid hga; clear hga) | (go_at_call 17; (with_reducible refine (HB.out _ (by repeat (first | (with_reducible exact Kp.refl _) | (with_reducible assumption) | (with_reducible apply Kp.ext) | (with_reducible apply Kp.alloc) | (with_reducible apply Kp.drew) | (with_reducible apply Kp.drewN) | (with_reducible refine Kp.setCell ?_ (by first | (dsimp only; omega) | (simp; omega) | (simp; done) | (simp [size_ext_eq]; omega)) _)))).mono ?_); rintro e w1 ⟨vb, ub, rfl, rfl, hgb⟩; obtain ⟨tb, xb, rfl⟩ := GeoB.ifc hgb; have Hgb := Lib.hid hgb; clear hgb))
  all_goals
    rename_i hHeld
    clear hHeld
    have hsz := HE
    clear hsz
    go_wp2_with (go_at_call 24; (with_reducible refine (HE.out _ _ _ _ _ _ _ (GeoB.keep Hga.out (Agree.of_kp (by repeat (first | (with_reducible exact Kp.refl _) | (with_reducible assumption) | (with_reducible apply Kp.ext) | (with_reducible apply Kp.alloc) | (with_reducible apply Kp.drew) | (with_reducible apply Kp.drewN) | (with_reducible refine Kp.setCell ?_ (by first | (dsimp only; omega) | (simp; omega) | (simp; done) | (simp [size_ext_eq]; omega)) _))) (Nat.le_refl _)) (Kp.size (by repeat (first | (with_reducible exact Kp.refl _) | (with_reducible assumption) | (with_reducible apply Kp.ext) | (with_reducible apply Kp.alloc) | (with_reducible apply Kp.drew) | (with_reducible apply Kp.drewN) | (with_reducible refine Kp.setCell ?_ (by first | (dsimp only; omega) | (simp; omega) | (simp; done) | (simp [size_ext_eq]; omega)) _))))) (GeoB.keep Hgb.out (Agree.of_kp (by repeat (first | (with_reducible exact Kp.refl _) | (with_reducible assumption) | (with_reducible apply Kp.ext) | (with_reducible apply Kp.alloc) | (with_reducible apply Kp.drew) | (with_reducible apply Kp.drewN) | (with_reducible refine Kp.setCell ?_ (by first | (dsimp only; omega) | (simp; omega) | (simp; done) | (simp [size_ext_eq]; omega)) _))) (Nat.le_refl _)) (Kp.size (by repeat (first | (with_reducible exact Kp.refl _) | (with_reducible assumption) | (with_reducible apply Kp.ext) | (with_reducible apply Kp.alloc) | (with_reducible apply Kp.drew) | (with_reducible apply Kp.drewN) | (with_reducible refine Kp.setCell ?_ (by first | (dsimp only; omega) | (simp; omega) | (simp; done) | (simp [size_ext_eq]; omega)) _))))) (Kp.size (by repeat (first | (with_reducible exact Kp.refl _) | (with_reducible assumption) | (with_reducible apply Kp.ext) | (with_reducible apply Kp.alloc) | (with_reducible apply Kp.drew) | (with_reducible apply Kp.drewN) | (with_reducible refine Kp.setCell ?_ (by first | (dsimp only; omega) | (simp; omega) | (simp; done) | (simp [size_ext_eq]; omega)) _)))) (Kp.size (by repeat (first | (with_reducible exact Kp.refl _) | (with_reducible assumption) | (with_reducible apply Kp.ext) | (with_reducible apply Kp.alloc) | (with_reducible apply Kp.drew) | (with_reducible apply Kp.drewN) | (with_reducible refine Kp.setCell ?_ (by first | (dsimp only; omega) | (simp; omega) | (simp; done) | (simp [size_ext_eq]; omega)) _))))).mono ?_); rintro e w' ⟨rfl, u, rfl⟩)
    go_ret
    exact Ret.mk rfl (by repeat (first | (with_reducible exact Kp.refl _) | (with_reducible assumption) | (with_reducible apply Kp.ext) | (with_reducible apply Kp.alloc) | (with_reducible apply Kp.drew) | (with_reducible apply Kp.drewN) | (with_reducible refine Kp.setCell ?_ (by first | (dsimp only; omega) | (simp; omega) | (simp; done) | (simp [size_ext_eq]; omega)) _)))
end Go.Proofs.YtohidpmkoehmcaaGreat
