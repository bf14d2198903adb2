/-
  impl.Rounded, walked.
-/
import Derived.Test.YtohidpmkoehmcaaGreatRnd4
namespace Go.Proofs.YtohidpmkoehmcaaGreat
open PubFl Go.RowKit

attribute [local go_sem] cell_ext frozen_ext ext_setCell cell_store size_ext_eq lt_p0 lt_p1 lt_p2 lt_p3 lt_p4 lt_p5 lt_p6 lt_p7 lt_p8 lt_p9 lt_p10 lt_p11 lt_p12 lt_p13 lt_p14 lt_p15 lt_p16 lt_p17 lt_p18 lt_p19 lt_p20 lt_p21 lt_p22 lt_p23 lt_p24 lt_p25 lt_p26 lt_p27 lt_p28 lt_p29 lt_p30 lt_p31 lt_p32 lt_q1 lt_q2 lt_q3 lt_q4 lt_q5 lt_q6 lt_q7 lt_q8 lt_q9 lt_q10 lt_q11 lt_q12 lt_q13 lt_q14 lt_q15 lt_q16 lt_q17 lt_q18 lt_q19 lt_q20 lt_q21 lt_q22 lt_q23 lt_q24 lt_q25 lt_q26 lt_q27 lt_q28 lt_q29 lt_q30 lt_q31 lt_q32 run_fop run_store_float
attribute [local go_sem high] cmp_eql cmp_neq cmp_lss cmp_leq cmp_gtr cmp_geq
attribute [local irreducible] rdF goodB canB

set_option maxRecDepth 20000 in
set_option maxHeartbeats 1000000 in
theorem rounded_c (s : Sh) (lv pv : Value) (w : World) (hs : ShIn 4 w lv pv s) (ok : isShB s = true) (G : AllSh GoodP 4 s) :
    Calls Tryz.prog 9 #[.agg #[.int .i64 s.kind, lv, pv], .int .i64 1] w (RetSh 4 (mapSh rdP 4 s) w) := by
  have hA := fun w' (hk : Kp w w') => geometry_c 4 s lv pv w' (hs.kp hk) (isSh_facts ok).1 (isSh_facts ok).2
  have hB := fun lo hi v w' F fc (h : GeoB 4 lo hi w' v s) (w'' : World) (hr : Rd lo w' w'') => orbRound_c 4 s lo hi v v lo w' w'' F fc h G (isSh_facts ok).1 (isSh_facts ok).2 (Nat.le_refl _) hr ⟨0, rfl⟩
  have hC := fun lo hi v w' (h : GeoB 4 lo hi w' v (mapSh rdP 4 s)) => shapeOf_c 4 (mapSh rdP 4 s) lo hi v w' h (mapSh_cntOk 4 s (isSh_facts ok).1) (mapSh_small 4 s (isSh_facts ok).2)
  have hkk := mapSh_kind (f := rdP) 4 s
  obtain ⟨⟨p1, n1, c1, rfl⟩, p2, n2, c2, rfl⟩ := hs.form
  obtain ⟨k, hk⟩ : ∃ k, s.kind = k := ⟨_, rfl⟩
  rw [hk] at hA hkk
  rw [hk]
  have HA := Lib.hid hA
  have HB := Lib.hid hB
  have HC := Lib.hid hC
  have Hk := Lib.hid hkk
  clear hs ok hA hB hC hk hkk G
  go_enter Tryz.func9, Tryz.ntmps9
  go_wp2_with (first | (go_at_call 17; (with_reducible refine (HA.out _ (by repeat (first | (with_reducible exact Kp.refl _) | (with_reducible assumption) | (with_reducible apply Kp.ext) | (with_reducible apply Kp.alloc) | (with_reducible apply Kp.drew) | (with_reducible apply Kp.drewN) | (with_reducible refine Kp.setCell ?_ (by first | (dsimp only; omega) | (simp; omega) | (simp; done) | (simp [size_ext_eq]; omega)) _)))).mono ?_); rintro e w1 ⟨v, u, rfl, hw1, hga⟩; obtain ⟨ta, xa, rfl⟩ := GeoB.iface hga; have Hga := Lib.hid hga; have Hw1 := Lib.hid hw1; clear hga hw1))
  have hkW : Kp ((w.alloc (.cells #[.int .i64 k, .slice p1 n1 c1, .slice p2 n2 c2] 25)).alloc (.cells #[.int .i64 0, .slice none 0 0, .slice none 0 0] 25)) w1 := by rw [Hw1.out]; exact (by repeat (first | (with_reducible exact Kp.refl _) | (with_reducible assumption) | (with_reducible apply Kp.ext) | (with_reducible apply Kp.alloc) | (with_reducible apply Kp.drew) | (with_reducible apply Kp.drewN) | (with_reducible refine Kp.setCell ?_ (by first | (dsimp only; omega) | (simp; omega) | (simp; done) | (simp [size_ext_eq]; omega)) _)))
  have hga := Hga.out
  have r0 : ((w.alloc (.cells #[.int .i64 k, .slice p1 n1 c1, .slice p2 n2 c2] 25)).alloc (.cells #[.int .i64 0, .slice none 0 0, .slice none 0 0] 25)).cell? ⟨w.heap.size + 1, 0, none⟩ = some (.int .i64 0) := by simp
  have r1 : ((w.alloc (.cells #[.int .i64 k, .slice p1 n1 c1, .slice p2 n2 c2] 25)).alloc (.cells #[.int .i64 0, .slice none 0 0, .slice none 0 0] 25)).cell? ⟨w.heap.size + 1, 1, none⟩ = some (.slice none 0 0) := by simp
  have r2 : ((w.alloc (.cells #[.int .i64 k, .slice p1 n1 c1, .slice p2 n2 c2] 25)).alloc (.cells #[.int .i64 0, .slice none 0 0, .slice none 0 0] 25)).cell? ⟨w.heap.size + 1, 2, none⟩ = some (.slice none 0 0) := by simp
  have rf : ∀ j, ((w.alloc (.cells #[.int .i64 k, .slice p1 n1 c1, .slice p2 n2 c2] 25)).alloc (.cells #[.int .i64 0, .slice none 0 0, .slice none 0 0] 25)).frozen? ⟨w.heap.size + 1, j, none⟩ = false := fun j => by simp
  have rs : ((w.alloc (.cells #[.int .i64 k, .slice p1 n1 c1, .slice p2 n2 c2] 25)).alloc (.cells #[.int .i64 0, .slice none 0 0, .slice none 0 0] 25)).heap.size = w.heap.size + 2 := by simp
  have rk : Kp w ((w.alloc (.cells #[.int .i64 k, .slice p1 n1 c1, .slice p2 n2 c2] 25)).alloc (.cells #[.int .i64 0, .slice none 0 0, .slice none 0 0] 25)) := (by repeat (first | (with_reducible exact Kp.refl _) | (with_reducible assumption) | (with_reducible apply Kp.ext) | (with_reducible apply Kp.alloc) | (with_reducible apply Kp.drew) | (with_reducible apply Kp.drewN) | (with_reducible refine Kp.setCell ?_ (by first | (dsimp only; omega) | (simp; omega) | (simp; done) | (simp [size_ext_eq]; omega)) _)))
  clear Hw1 Hga
  generalize (w.alloc (.cells #[.int .i64 k, .slice p1 n1 c1, .slice p2 n2 c2] 25)).alloc (.cells #[.int .i64 0, .slice none 0 0, .slice none 0 0] 25) = W0 at *
  obtain ⟨xr, hxr⟩ := rdV_ifc ta xa
  have hcall := HB.out W0.heap.size w1.heap.size (.iface ta xa) w1 w1.heap.size 1 hga (w1.alloc (.cells #[.int .i64 1] 3)) (Rd.of_kp (by repeat (first | (with_reducible exact Kp.refl _) | (with_reducible assumption) | (with_reducible apply Kp.ext) | (with_reducible apply Kp.alloc) | (with_reducible apply Kp.drew) | (with_reducible apply Kp.drewN) | (with_reducible refine Kp.setCell ?_ (by first | (dsimp only; omega) | (simp; omega) | (simp; done) | (simp [size_ext_eq]; omega)) _)))) (by simp) (by simp)
  rw [hxr] at hcall
  have HCall := Lib.hid hcall
  have HkW := Lib.hid hkW
  have HkW1 := Lib.hid (show Kp W0 (w1.alloc (.cells #[.int .i64 1] 3)) from (by repeat (first | (with_reducible exact Kp.refl _) | (with_reducible assumption) | (with_reducible apply Kp.ext) | (with_reducible apply Kp.alloc) | (with_reducible apply Kp.drew) | (with_reducible apply Kp.drewN) | (with_reducible refine Kp.setCell ?_ (by first | (dsimp only; omega) | (simp; omega) | (simp; done) | (simp [size_ext_eq]; omega)) _))))
  have Rs := Lib.hid rs
  clear hcall hga hxr hkW rs
  go_wp2_with (go_at_call 19; (with_reducible refine (HCall.out).mono ?_); rintro e w2 ⟨rfl, hr, hg⟩; have hk2 : Kp W0 w2 := Below.trans HkW1.out (hr.below HkW1.out.size); have Hk2 := Lib.hid hk2; have Hg := Lib.hid hg; have hW := Rs.out; have R0 := Kp.cell hk2 r0 (by omega); have R1 := Kp.cell hk2 r1 (by omega); have R2 := Kp.cell hk2 r2 (by omega); have RF := fun j => (Below.frozen (p := ⟨w.heap.size + 1, j, none⟩) hk2 (show w.heap.size + 1 < W0.heap.size by omega)).trans (rf j); have hlt : w.heap.size + 1 < w2.heap.size := Nat.lt_of_lt_of_le (by omega) hk2.size; have RF0 := RF 0; have RF1 := RF 1; have RF2 := RF 2; clear hr hg hk2 hW RF)
  go_wp2_with (go_at_call 18; (with_reducible refine (HC.out _ _ _ _ Hg.out).mono ?_); rintro e w3 ⟨lv', pv', u3, rfl, rfl, hsh⟩; obtain ⟨⟨q1, m1, d1, rfl⟩, q2, m2, d2, rfl⟩ := hsh.form; rw [Hk.out]; have Hsh := Lib.hid hsh; clear hsh)
  have hkw : Kp w w2 := rk.trans Hk2.out
  refine bodyPost_ret (v := .agg #[.int .i64 k, .slice q1 m1 d1, .slice q2 m2 d2]) (by simp [results, Tryz.results9, go_sem, R0, R1, R2, hlt]) rfl ⟨_, _, _, by rw [Hk.out], ext_of ?_, ?_⟩
  · show Kp w _
    exact (by repeat (first | (with_reducible exact Kp.refl _) | (with_reducible assumption) | (with_reducible apply Kp.ext) | (with_reducible apply Kp.alloc) | (with_reducible apply Kp.drew) | (with_reducible apply Kp.drewN) | (with_reducible refine Kp.setCell ?_ (by first | (dsimp only; omega) | (simp; omega) | (simp; done) | (simp [size_ext_eq]; omega)) _)))
  · have hP := Hsh.out
    have he : ext (((w2.setCell ⟨w.heap.size + 1, 0, none⟩ (.int .i64 k)).setCell ⟨w.heap.size + 1, 1, none⟩ (.slice q1 m1 d1)).setCell ⟨w.heap.size + 1, 2, none⟩ (.slice q2 m2 d2)) u3 =
        (((ext w2 u3).setCell ⟨w.heap.size + 1, 0, none⟩ (.int .i64 k)).setCell ⟨w.heap.size + 1, 1, none⟩ (.slice q1 m1 d1)).setCell ⟨w.heap.size + 1, 2, none⟩ (.slice q2 m2 d2) := by
      rw [ext_setCell hlt, ext_setCell (by simpa using hlt), ext_setCell (by simpa using hlt)]
    rw [he]
    exact ShB.mono (ShB.keep hP (((agree_set hlt).trans (agree_set hlt)).trans (agree_set hlt)) (by simp)) (by omega) (by simp)
end Go.Proofs.YtohidpmkoehmcaaGreat
