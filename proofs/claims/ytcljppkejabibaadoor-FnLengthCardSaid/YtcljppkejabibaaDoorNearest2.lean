/-
  impl.geometry of points and of a line, impl.DistanceFrom of points.
-/
import Derived.Test.YtcljppkejabibaaDoorNearest
namespace Go.Proofs.YtcljppkejabibaaDoor
open PubFl Go.RowKit

attribute [local go_sem] cell_ext frozen_ext ext_setCell cell_store size_ext_eq lt_p0 lt_p1 lt_p2 lt_p3 lt_p4 lt_p5 lt_p6 lt_p7 lt_p8 lt_p9 lt_p10 lt_p11 lt_p12 lt_p13 lt_p14 lt_p15 lt_p16 lt_p17 lt_p18 lt_p19 lt_p20 lt_p21 lt_p22 lt_p23 lt_p24 lt_p25 lt_p26 lt_p27 lt_p28 lt_p29 lt_p30 lt_p31 lt_p32 lt_q1 lt_q2 lt_q3 lt_q4 lt_q5 lt_q6 lt_q7 lt_q8 lt_q9 lt_q10 lt_q11 lt_q12 lt_q13 lt_q14 lt_q15 lt_q16 lt_q17 lt_q18 lt_q19 lt_q20 lt_q21 lt_q22 lt_q23 lt_q24 lt_q25 lt_q26 lt_q27 lt_q28 lt_q29 lt_q30 lt_q31 lt_q32 run_fop run_store_float
attribute [local go_sem high] cmp_eql cmp_neq cmp_lss cmp_leq cmp_gtr cmp_geq

theorem first_c (L c : Nat) (k P : Value) (a : Option Addr) (n cap : Nat) (w : World) (hL : L < w.heap.size) (hc : w.cell? ⟨L, 0, none⟩ = some (.slice a n cap)) :
    Calls Tryd.prog 50 #[.agg #[k, .slice (some ⟨L, 0, none⟩) 1 c, P]] w (Ret w (.slice a n cap)) := by
  go_enter Tryd.func50, Tryd.ntmps50
  go_wp2_with fail
  go_ret
  exact Ret.mk rfl (by repeat (first | (with_reducible exact Kp.refl _) | (with_reducible assumption) | (with_reducible apply Kp.ext) | (with_reducible apply Kp.alloc) | (with_reducible apply Kp.drew) | (with_reducible apply Kp.drewN) | (with_reducible refine Kp.setCell ?_ (by first | (dsimp only; omega) | (simp; omega) | (simp; done) | (simp [size_ext_eq]; omega)) _)))

/-- a list of points as a geometry of this type -/
def GeoRet (T : TypeId) (w : World) (ps : List (Nat × Nat)) (e : Ending) (w' : World) : Prop := ∃ g cap', e = .returned (.iface T (.slice (some ⟨g, 0, none⟩) ps.length cap')) ∧ g < w'.heap.size ∧ PtsAt w' g 0 ps ∧ ∃ u, w' = ext w u

set_option maxRecDepth 100000 in
set_option maxHeartbeats 1000000 in
theorem geoPts_c (L c : Nat) (P : Value) (a : Option Addr) (cap : Nat) (ps : List (Nat × Nat)) (hn : ps.length ≤ 2147483647) (hpos : 0 < ps.length) (w : World) (hL : L < w.heap.size) (hc : w.cell? ⟨L, 0, none⟩ = some (.slice a ps.length cap)) (hs : PtsIn w a ps) :
    Calls Tryd.prog 34 #[.agg #[.int .i64 4, .slice (some ⟨L, 0, none⟩) 1 c, P]] w (GeoRet 80 w ps) := by
  have hp := Lib.hid (fun w' (hk : Kp w w') => pointsOf_c a cap ps hn w' (hs.kp hk))
  have hf := Lib.hid (fun w' (hk : Kp w w') => first_c L c (.int .i64 4) P a ps.length cap w' (Nat.lt_of_lt_of_le hL hk.size) (Kp.cell hk hc hL))
  clear hs
  go_enter Tryd.func34, Tryd.ntmps34
  go_wp2_with (first | (go_at_call 50; (first | (with_reducible refine (Ret.at_ext (hf.out _ (by repeat (first | (with_reducible exact Kp.refl _) | (with_reducible assumption) | (with_reducible apply Kp.ext) | (with_reducible apply Kp.alloc) | (with_reducible apply Kp.drew) | (with_reducible apply Kp.drewN) | (with_reducible refine Kp.setCell ?_ (by first | (dsimp only; omega) | (simp; omega) | (simp; done) | (simp [size_ext_eq]; omega)) _))))).mono ?_) | (with_reducible refine (hf.out _ (by repeat (first | (with_reducible exact Kp.refl _) | (with_reducible assumption) | (with_reducible apply Kp.ext) | (with_reducible apply Kp.alloc) | (with_reducible apply Kp.drew) | (with_reducible apply Kp.drewN) | (with_reducible refine Kp.setCell ?_ (by first | (dsimp only; omega) | (simp; omega) | (simp; done) | (simp [size_ext_eq]; omega)) _)))).mono ?_)); rintro e w' ⟨rfl, u, rfl⟩) | (go_at_call 26; (with_reducible refine (hp.out _ (by repeat (first | (with_reducible exact Kp.refl _) | (with_reducible assumption) | (with_reducible apply Kp.ext) | (with_reducible apply Kp.alloc) | (with_reducible apply Kp.drew) | (with_reducible apply Kp.drewN) | (with_reducible refine Kp.setCell ?_ (by first | (dsimp only; omega) | (simp; omega) | (simp; done) | (simp [size_ext_eq]; omega)) _)))).mono ?_); rintro e w1 ⟨v, u, rfl, rfl, hq⟩; obtain ⟨g, cap', rfl, _, hg2, _, _, hpt⟩ := hq.form hpos))
  go_ret
  exact ⟨g, cap', rfl, hg2, hpt, _, ext_of (show Kp w _ from (by repeat (first | (with_reducible exact Kp.refl _) | (with_reducible assumption) | (with_reducible apply Kp.ext) | (with_reducible apply Kp.alloc) | (with_reducible apply Kp.drew) | (with_reducible apply Kp.drewN) | (with_reducible refine Kp.setCell ?_ (by first | (dsimp only; omega) | (simp; omega) | (simp; done) | (simp [size_ext_eq]; omega)) _))))⟩
set_option maxRecDepth 100000 in
set_option maxHeartbeats 1000000 in
theorem geoLine_c (L c : Nat) (P : Value) (a : Option Addr) (cap : Nat) (ps : List (Nat × Nat)) (hn : ps.length ≤ 2147483647) (hpos : 0 < ps.length) (w : World) (hL : L < w.heap.size) (hc : w.cell? ⟨L, 0, none⟩ = some (.slice a ps.length cap)) (hs : PtsIn w a ps) :
    Calls Tryd.prog 34 #[.agg #[.int .i64 2, .slice (some ⟨L, 0, none⟩) 1 c, P]] w (GeoRet 76 w ps) := by
  have hp := Lib.hid (fun w' (hk : Kp w w') => pointsOf_c a cap ps hn w' (hs.kp hk))
  have hf := Lib.hid (fun w' (hk : Kp w w') => first_c L c (.int .i64 2) P a ps.length cap w' (Nat.lt_of_lt_of_le hL hk.size) (Kp.cell hk hc hL))
  clear hs
  go_enter Tryd.func34, Tryd.ntmps34
  go_wp2_with (first | (go_at_call 50; (first | (with_reducible refine (Ret.at_ext (hf.out _ (by repeat (first | (with_reducible exact Kp.refl _) | (with_reducible assumption) | (with_reducible apply Kp.ext) | (with_reducible apply Kp.alloc) | (with_reducible apply Kp.drew) | (with_reducible apply Kp.drewN) | (with_reducible refine Kp.setCell ?_ (by first | (dsimp only; omega) | (simp; omega) | (simp; done) | (simp [size_ext_eq]; omega)) _))))).mono ?_) | (with_reducible refine (hf.out _ (by repeat (first | (with_reducible exact Kp.refl _) | (with_reducible assumption) | (with_reducible apply Kp.ext) | (with_reducible apply Kp.alloc) | (with_reducible apply Kp.drew) | (with_reducible apply Kp.drewN) | (with_reducible refine Kp.setCell ?_ (by first | (dsimp only; omega) | (simp; omega) | (simp; done) | (simp [size_ext_eq]; omega)) _)))).mono ?_)); rintro e w' ⟨rfl, u, rfl⟩) | (go_at_call 26; (with_reducible refine (hp.out _ (by repeat (first | (with_reducible exact Kp.refl _) | (with_reducible assumption) | (with_reducible apply Kp.ext) | (with_reducible apply Kp.alloc) | (with_reducible apply Kp.drew) | (with_reducible apply Kp.drewN) | (with_reducible refine Kp.setCell ?_ (by first | (dsimp only; omega) | (simp; omega) | (simp; done) | (simp [size_ext_eq]; omega)) _)))).mono ?_); rintro e w1 ⟨v, u, rfl, rfl, hq⟩; obtain ⟨g, cap', rfl, _, hg2, _, _, hpt⟩ := hq.form hpos))
  go_ret
  exact ⟨g, cap', rfl, hg2, hpt, _, ext_of (show Kp w _ from (by repeat (first | (with_reducible exact Kp.refl _) | (with_reducible assumption) | (with_reducible apply Kp.ext) | (with_reducible apply Kp.alloc) | (with_reducible apply Kp.drew) | (with_reducible apply Kp.drewN) | (with_reducible refine Kp.setCell ?_ (by first | (dsimp only; omega) | (simp; omega) | (simp; done) | (simp [size_ext_eq]; omega)) _))))⟩

theorem ta_mp_Point (v : Value) (w : World) : (Instr.typeAssert (.iface 80 v) 57 55 true).run Tryd.prog w = .ok (.tuple #[.agg #[.float .f64 0, .float .f64 0], .bool false]) w := by kernel_rfl
theorem ta_mp_MultiPoint (v : Value) (w : World) : (Instr.typeAssert (.iface 80 v) 57 80 true).run Tryd.prog w = .ok (.tuple #[v, .bool true]) w := by kernel_rfl

set_option maxRecDepth 100000 in
set_option maxHeartbeats 1000000 in
theorem dfPts_c (g cap : Nat) (ps : List (Nat × Nat)) (hn : ps.length ≤ 1000) (hpos : 0 < ps.length) (w : World) (hg : g < w.heap.size) (hpt : PtsAt w g 0 ps) (px py : Nat) (hok : DistOk px py ps) (f best : Nat) (hb : bestF (dS px py ps) ps.length = best) (hf : sqrtF (dS px py ps best) = f) :
    Calls Tryd.prog 39 #[.iface 80 (.slice (some ⟨g, 0, none⟩) ps.length cap), .agg #[.float .f64 px, .float .f64 py]] w (Ret w (.tuple #[.float .f64 f, .int .i64 best])) := by
  have h := fun w' (hk : Kp w w') => mpDist_c g 0 cap ps hn hpos w' (Nat.lt_of_lt_of_le hg hk.size) (hpt.kp hg hk) px py hok
  rw [hb, hf] at h
  have H := Lib.hid h
  clear h hpt hok hb hf
  have t1 := ta_mp_Point
  have t2 := ta_mp_MultiPoint
  go_enter Tryd.func39, Tryd.ntmps39
  go_wp2_with (go_at_call 61; (first | (with_reducible refine (Ret.at_ext (H.out _ (by repeat (first | (with_reducible exact Kp.refl _) | (with_reducible assumption) | (with_reducible apply Kp.ext) | (with_reducible apply Kp.alloc) | (with_reducible apply Kp.drew) | (with_reducible apply Kp.drewN) | (with_reducible refine Kp.setCell ?_ (by first | (dsimp only; omega) | (simp; omega) | (simp; done) | (simp [size_ext_eq]; omega)) _))))).mono ?_) | (with_reducible refine (H.out _ (by repeat (first | (with_reducible exact Kp.refl _) | (with_reducible assumption) | (with_reducible apply Kp.ext) | (with_reducible apply Kp.alloc) | (with_reducible apply Kp.drew) | (with_reducible apply Kp.drewN) | (with_reducible refine Kp.setCell ?_ (by first | (dsimp only; omega) | (simp; omega) | (simp; done) | (simp [size_ext_eq]; omega)) _)))).mono ?_)); rintro e w' ⟨rfl, u, rfl⟩)
  go_ret2
  exact Ret.mk rfl (by repeat (first | (with_reducible exact Kp.refl _) | (with_reducible assumption) | (with_reducible apply Kp.ext) | (with_reducible apply Kp.alloc) | (with_reducible apply Kp.drew) | (with_reducible apply Kp.drewN) | (with_reducible refine Kp.setCell ?_ (by first | (dsimp only; omega) | (simp; omega) | (simp; done) | (simp [size_ext_eq]; omega)) _)))

set_option maxRecDepth 20000 in
set_option maxHeartbeats 1000000 in
theorem distFrom_c (L c : Nat) (a : Option Addr) (cap : Nat) (ps : List (Nat × Nat)) (hn : ps.length ≤ 1000) (hpos : 0 < ps.length) (w : World) (hL : L < w.heap.size) (hc : w.cell? ⟨L, 0, none⟩ = some (.slice a ps.length cap)) (hs : PtsIn w a ps) (px py : Nat) (hok : DistOk px py ps) (f best : Nat) (hb : bestF (dS px py ps) ps.length = best) (hf : sqrtF (dS px py ps best) = f) :
    Calls Tryd.prog 22 #[.agg #[.int .i64 4, .slice (some ⟨L, 0, none⟩) 1 c, .slice none 0 0], .agg #[.float .f64 px, .float .f64 py]] w (Ret w (.tuple #[.float .f64 f, .int .i64 best])) := by
  have hgeo := Lib.hid (fun w' (hk : Kp w w') => geoPts_c L c (.slice none 0 0) a cap ps (by omega) hpos w' (Nat.lt_of_lt_of_le hL hk.size) (Kp.cell hk hc hL) (hs.kp hk))
  have hdf := Lib.hid (fun g cap w' hg hpt => dfPts_c g cap ps hn hpos w' hg hpt px py hok f best hb hf)
  clear hs hok hb hf hc
  go_enter Tryd.func22, Tryd.ntmps22
  go_wp2_with (first | (go_at_call 34; (with_reducible refine (hgeo.out _ (by repeat (first | (with_reducible exact Kp.refl _) | (with_reducible assumption) | (with_reducible apply Kp.ext) | (with_reducible apply Kp.alloc) | (with_reducible apply Kp.drew) | (with_reducible apply Kp.drewN) | (with_reducible refine Kp.setCell ?_ (by first | (dsimp only; omega) | (simp; omega) | (simp; done) | (simp [size_ext_eq]; omega)) _)))).mono ?_); rintro e w1 ⟨g, cap', rfl, hg, hpt, u, hu⟩; have HD := Lib.hid (fun w' (hk : Kp w1 w') => hdf.out g cap' w' (Nat.lt_of_lt_of_le hg hk.size) (hpt.kp hg hk)); clear hpt; subst hu) | (go_at_call 39; (first | (with_reducible refine (Ret.at_ext (HD.out _ (Kp.refl _))).mono ?_) | (with_reducible refine (HD.out _ (Kp.refl _)).mono ?_)); rintro e w' ⟨rfl, u, rfl⟩))
  go_ret2
  exact Ret.mk rfl (by repeat (first | (with_reducible exact Kp.refl _) | (with_reducible assumption) | (with_reducible apply Kp.ext) | (with_reducible apply Kp.alloc) | (with_reducible apply Kp.drew) | (with_reducible apply Kp.drewN) | (with_reducible refine Kp.setCell ?_ (by first | (dsimp only; omega) | (simp; omega) | (simp; done) | (simp [size_ext_eq]; omega)) _)))
end Go.Proofs.YtcljppkejabibaaDoor
