/-
  impl.Copy of a shape: a shape that holds the same, in new memory.
-/
import Derived.Test.YtciaeknfgdckbaaClone2
namespace Go.Proofs.Ytciaeknfgdckbaa
open PubFl Go.RowKit

attribute [local go_sem] cell_ext frozen_ext ext_setCell cell_store size_ext_eq lt_p0 lt_p1 lt_p2 lt_p3 lt_p4 lt_p5 lt_p6 lt_p7 lt_p8 lt_p9 lt_p10 lt_p11 lt_p12 lt_p13 lt_p14 lt_p15 lt_p16 lt_p17 lt_p18 lt_p19 lt_p20 lt_p21 lt_p22 lt_p23 lt_p24 lt_p25 lt_p26 lt_p27 lt_p28 lt_p29 lt_p30 lt_p31 lt_p32 lt_q1 lt_q2 lt_q3 lt_q4 lt_q5 lt_q6 lt_q7 lt_q8 lt_q9 lt_q10 lt_q11 lt_q12 lt_q13 lt_q14 lt_q15 lt_q16 lt_q17 lt_q18 lt_q19 lt_q20 lt_q21 lt_q22 lt_q23 lt_q24 lt_q25 lt_q26 lt_q27 lt_q28 lt_q29 lt_q30 lt_q31 lt_q32 run_fop run_store_float
attribute [local go_sem high] cmp_eql cmp_neq cmp_lss cmp_leq cmp_gtr cmp_geq

set_option maxRecDepth 20000 in
set_option maxHeartbeats 1000000 in
theorem copy_c (s : Sh) (lv pv : Value) (w : World) (hs : ShIn 4 w lv pv s) (ok : isShB s = true) :
    Calls Try.prog 14 #[.agg #[.int .i64 s.kind, lv, pv]] w (RetSh 4 s w) := by
  have hA := fun w' (hk : Kp w w') => geometry_c 4 s lv pv w' (hs.kp hk) (isSh_facts ok).1 (isSh_facts ok).2
  have hB := fun lo hi v w' (h : GeoB 4 lo hi w' v s) => clone_c 4 s lo hi v w' h (isSh_facts ok).1 (isSh_facts ok).2
  have hC := fun lo hi v w' (h : GeoB 4 lo hi w' v s) => shapeOf_c 4 s lo hi v w' h (isSh_facts ok).1 (isSh_facts ok).2
  obtain ⟨⟨p1, n1, c1, rfl⟩, p2, n2, c2, rfl⟩ := hs.form
  obtain ⟨k, hk⟩ : ∃ k, s.kind = k := ⟨_, rfl⟩
  rw [hk] at hA
  rw [hk]
  have HA := Lib.hid hA
  have HB := Lib.hid hB
  have HC := Lib.hid hC
  have Hk := Lib.hid hk
  clear hs ok hA hB hC hk
  go_enter Try.func14, Try.ntmps14
  go_wp2_with (first | (go_at_call 22; (with_reducible refine (HA.out _ (by repeat (first | (with_reducible exact Kp.refl _) | (with_reducible assumption) | (with_reducible apply Kp.ext) | (with_reducible apply Kp.alloc) | (with_reducible apply Kp.drew) | (with_reducible apply Kp.drewN) | (with_reducible refine Kp.setCell ?_ (by first | (dsimp only; omega) | (simp; omega) | (simp; done) | (simp [size_ext_eq]; omega)) _)))).mono ?_); rintro e w1 ⟨v, u, rfl, rfl, hga⟩; obtain ⟨ta, xa, rfl⟩ := GeoB.ifc hga; have Hga := Lib.hid hga; clear hga) | (go_at_call 28; (with_reducible refine (HB.out _ _ _ _ Hga.out).mono ?_); rintro e w2 ⟨v2, u2, rfl, rfl, hgb⟩; obtain ⟨tb, xb, rfl⟩ := GeoB.ifc hgb; have Hgb := Lib.hid hgb; clear hgb) | (go_at_call 27; (with_reducible refine (HC.out _ _ _ _ Hgb.out).mono ?_); rintro e w3 ⟨lv', pv', u3, rfl, rfl, hsh⟩; obtain ⟨⟨q1, m1, d1, rfl⟩, q2, m2, d2, rfl⟩ := hsh.form; rw [Hk.out]; have Hsh := Lib.hid hsh; clear hsh))
  refine bodyPost_ret (v := .agg #[.int .i64 k, .slice q1 m1 d1, .slice q2 m2 d2]) (by simp [results, Try.results14, go_sem]) rfl ⟨_, _, _, by rw [Hk.out], ext_of ?_, ?_⟩
  · show Kp w _
    exact (by repeat (first | (with_reducible exact Kp.refl _) | (with_reducible assumption) | (with_reducible apply Kp.ext) | (with_reducible apply Kp.alloc) | (with_reducible apply Kp.drew) | (with_reducible apply Kp.drewN) | (with_reducible refine Kp.setCell ?_ (by first | (dsimp only; omega) | (simp; omega) | (simp; done) | (simp [size_ext_eq]; omega)) _)))
  · have hP := Hsh.out
    have he : ext (ext (ext ((w.alloc (.cells #[.int .i64 k, .slice p1 n1 c1, .slice p2 n2 c2] 25)).alloc (.cells #[.int .i64 k, .slice q1 m1 d1, .slice q2 m2 d2] 25)) u) u2) u3 =
        (((ext (ext (ext ((w.alloc (.cells #[.int .i64 k, .slice p1 n1 c1, .slice p2 n2 c2] 25)).alloc (.cells #[.int .i64 0, .slice none 0 0, .slice none 0 0] 25)) u) u2) u3).setCell ⟨w.heap.size + 1, 0, none⟩ (.int .i64 k)).setCell ⟨w.heap.size + 1, 1, none⟩ (.slice q1 m1 d1)).setCell ⟨w.heap.size + 1, 2, none⟩ (.slice q2 m2 d2) := by simp [go_sem]
    rw [he]
    have hlo : w.heap.size + 1 < (ext (ext ((w.alloc (.cells #[.int .i64 k, .slice p1 n1 c1, .slice p2 n2 c2] 25)).alloc (.cells #[.int .i64 0, .slice none 0 0, .slice none 0 0] 25)) u) u2).heap.size := by
      simp [size_ext_eq]; omega
    exact ShB.mono (ShB.keep hP (((agree_set hlo).trans (agree_set hlo)).trans (agree_set hlo)) (by simp)) (by omega) (by simp)
end Go.Proofs.Ytciaeknfgdckbaa
