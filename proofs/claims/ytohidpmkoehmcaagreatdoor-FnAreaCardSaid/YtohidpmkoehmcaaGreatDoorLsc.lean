/-
  lineStringCentroidDist, walked.
-/
import Derived.Test.YtohidpmkoehmcaaGreatDoorMG6
import Derived.Deep.RegionHeld3
import Derived.Deep.DrawnRows
set_option linter.all false
namespace Go.Proofs.YtohidpmkoehmcaaGreatDoor
open PubFl Go.RowKit

attribute [local go_sem] cell_ext frozen_ext ext_setCell cell_store size_ext_eq lt_p0 lt_p1 lt_p2 lt_p3 lt_p4 lt_p5 lt_p6 lt_p7 lt_p8 lt_p9 lt_p10 lt_p11 lt_p12 lt_p13 lt_p14 lt_p15 lt_p16 lt_p17 lt_p18 lt_p19 lt_p20 lt_p21 lt_p22 lt_p23 lt_p24 lt_p25 lt_p26 lt_p27 lt_p28 lt_p29 lt_p30 lt_p31 lt_p32 lt_q1 lt_q2 lt_q3 lt_q4 lt_q5 lt_q6 lt_q7 lt_q8 lt_q9 lt_q10 lt_q11 lt_q12 lt_q13 lt_q14 lt_q15 lt_q16 lt_q17 lt_q18 lt_q19 lt_q20 lt_q21 lt_q22 lt_q23 lt_q24 lt_q25 lt_q26 lt_q27 lt_q28 lt_q29 lt_q30 lt_q31 lt_q32 run_fop run_store_float
attribute [local go_sem high] cmp_eql cmp_neq cmp_lss cmp_leq cmp_gtr cmp_geq

/-- what comes of it: a middle that is finite, and a length -/
def LscRet (w : World) (e : Ending) (w' : World) : Prop := ∃ cx cy d : Nat, e = .returned (.tuple #[.agg #[.float .f64 cx, .float .f64 cy], .float .f64 d]) ∧ Bd cx 300 ∧ Bd cy 300 ∧ LenV d 100 ∧ ∃ u, w' = ext w u

set_option maxRecDepth 100000 in
set_option maxHeartbeats 4000000 in
theorem lsc_c (b off cap : Nat) (ps : List (Nat × Nat)) (hn : ps.length ≤ 100) (hpos : 1 ≤ ps.length) (w : World) (hb : b < w.heap.size) (hpt : PtsAt w b off ps) (x y : Nat → Int) (hi : IntPts ps x y) :
    Calls Tryz.prog 54 #[.slice (some ⟨b, off, none⟩) ps.length cap] w (LscRet w) := by
  obtain ⟨a0, a1⟩ := hpt 0 (by omega)
  obtain ⟨u0, u1, r0, r1⟩ := hi 0 (by omega)
  obtain ⟨⟨ox, oy⟩, hq0⟩ : ∃ q, ps[0]'(by omega) = q := ⟨_, rfl⟩
  rw [hq0] at a0 a1 u0 u1
  simp only [Nat.zero_mul, Nat.add_zero] at a0 a1
  clear hq0
  obtain ⟨l, hl⟩ : ∃ l : Nat, ps.length = l + 1 := ⟨ps.length - 1, by omega⟩
  have hsum : ((ps.length : Int) - 1) = (l : Int) := by omega
  have hw2 : IntKind.i64.wrap (l : Int) = (l : Int) := wrap_in _ (by omega) (by omega)
  have hl1 : ((0 : Int) < (ps.length : Int)) := by omega
  have hl2 : ((ps.length : Int) = 0) = False := eq_false (by omega)
  have hl3 : ((ps.length : Int) == 0) = false := beq_eq_false_iff_ne.2 (by omega)
  have Hl := Lib.hid hl
  have Hpt := Lib.hid hpt
  have Hi := Lib.hid hi
  clear hl hpt hi
  go_enter Tryz.func54, Tryz.ntmps54
  go_wp2_with fail
  go_loopw [4, 7] (fun s4 s7 wr => ∃ (k d cx cy : Nat), k ≤ l ∧ s4 = .float .f64 d ∧ s7 = .int .i64 k ∧ LenV d k ∧ Bd cx (32 + 2 * k) ∧ Bd cy (32 + 2 * k) ∧ Kp w wr ∧ NewPt w wr w.heap.size 0 0 ∧ NewPt w wr (w.heap.size + 1) cx cy ∧ NewPt w wr (w.heap.size + 2) ox oy) (fun _ s7 _ => ps.length - (intOf s7).toNat)
  case atStart => exact ⟨0, 0, 0, 0, by omega, rfl, rfl, LenV.zero 0, Bd.int (a := 0) zero_isV (by decide), Bd.int (a := 0) zero_isV (by decide), (by repeat (first | (with_reducible exact Kp.refl _) | (with_reducible assumption) | (with_reducible apply Kp.ext) | (with_reducible apply Kp.alloc) | (with_reducible apply Kp.drew) | (with_reducible apply Kp.drewN) | (with_reducible refine Kp.setCell ?_ (by first | (dsimp only; omega) | (simp; omega) | (simp; done) | (simp [size_ext_eq]; omega)) _))), (by repeat (first | assumption | ((with_reducible refine NewPt.at ?_ _ _ _ ?_) <;> (first | (simp; done) | (simp; omega) | omega | (simp [size_ext_eq]; done) | (simp [size_ext_eq]; omega))) | (with_reducible apply NewPt.alloc) | (with_reducible apply NewPt.drew) | (with_reducible apply NewPt.drewN) | (with_reducible apply NewPt.ext) | (with_reducible exact NewPt.store (by assumption) _ _) | (with_reducible refine NewPt.other ?_ (by omega) _ _))), (by repeat (first | assumption | ((with_reducible refine NewPt.at ?_ _ _ _ ?_) <;> (first | (simp; done) | (simp; omega) | omega | (simp [size_ext_eq]; done) | (simp [size_ext_eq]; omega))) | (with_reducible apply NewPt.alloc) | (with_reducible apply NewPt.drew) | (with_reducible apply NewPt.drewN) | (with_reducible apply NewPt.ext) | (with_reducible exact NewPt.store (by assumption) _ _) | (with_reducible refine NewPt.other ?_ (by omega) _ _))), (by repeat (first | assumption | ((with_reducible refine NewPt.at ?_ _ _ _ ?_) <;> (first | (simp; done) | (simp; omega) | omega | (simp [size_ext_eq]; done) | (simp [size_ext_eq]; omega))) | (with_reducible apply NewPt.alloc) | (with_reducible apply NewPt.drew) | (with_reducible apply NewPt.drewN) | (with_reducible apply NewPt.ext) | (with_reducible exact NewPt.store (by assumption) _ _) | (with_reducible refine NewPt.other ?_ (by omega) _ _)))⟩
  case round =>
    obtain ⟨k, d, cx, cy, hkn, rfl, rfl, hd, hcx, hcy, hkp, m1, m2, m3⟩ := hrel
    have hl := Hl.out
    by_cases hlt : k < l
    · obtain ⟨e0, e1⟩ := Hpt.out.kp hb hkp k (by omega)
      obtain ⟨f0, f1⟩ := Hpt.out.kp hb hkp (k + 1) (by omega)
      obtain ⟨v0, v1, c1, c2⟩ := Hi.out k (by omega)
      obtain ⟨v2, v3, c3, c4⟩ := Hi.out (k + 1) (by omega)
      obtain ⟨⟨px, py⟩, hq⟩ : ∃ q, ps[k]'(by omega) = q := ⟨_, rfl⟩
      obtain ⟨⟨qx, qy⟩, hq'⟩ : ∃ q, ps[k + 1]'(by omega) = q := ⟨_, rfl⟩
      rw [hq] at e0 e1 v0 v1
      rw [hq'] at f0 f1 v2 v3
      dsimp only at e0 e1 f0 f1 v0 v1 v2 v3
      obtain ⟨o1, n1⟩ := sub_int v0 u0 (by omega)
      obtain ⟨o2, n2⟩ := sub_int v1 u1 (by omega)
      obtain ⟨o3, n3⟩ := sub_int v2 u0 (by omega)
      obtain ⟨o4, n4⟩ := sub_int v3 u1 (by omega)
      obtain ⟨ok, so, hlen⟩ := dist_len n1 n2 n3 n4 (by omega) (by omega) (by omega) (by omega)
      obtain ⟨s1, s2, s3, s4, s5⟩ := mid_step n1 n3 (by omega) (by omega) hlen hcx (by omega) (by omega)
      obtain ⟨t1, t2, t3, t4, t5⟩ := mid_step n2 n4 (by omega) (by omega) hlen hcy (by omega) (by omega)
      obtain ⟨o5, hd5⟩ := hd.add hlen (by omega)
      have HD := Lib.hid (fun w' => distance_c (fop .sub px ox) (fop .sub py oy) (fop .sub qx ox) (fop .sub qy oy) ok so w')
      generalize sqrtF (dsqF (fop .sub px ox) (fop .sub py oy) (fop .sub qx ox) (fop .sub qy oy)) = dd at *
      generalize hP : fop .sub px ox = p1x at *
      generalize hP2 : fop .sub py oy = p1y at *
      generalize hP3 : fop .sub qx ox = p2x at *
      generalize hP4 : fop .sub qy oy = p2y at *
      have hbk : b < wr.heap.size := Nat.lt_of_lt_of_le hb hkp.size
      have hk3' : (k : Int) < (l : Int) := by omega
      have hk5 : ((k : Int) + 1).toNat = k + 1 := by omega
      have hk6 : (0 : Int) ≤ (k : Int) + 1 := by omega
      have hk7 : ((k : Int) < (ps.length : Int)) := by omega
      have hk8 : ((k : Int) + 1 < (ps.length : Int)) := by omega
      have hw3 : IntKind.i64.wrap ((k : Int) + 1) = (k : Int) + 1 := wrap_in _ (by omega) (by omega)
      obtain ⟨_, i1, g1, g2, g3, g4⟩ := id m2
      obtain ⟨_, i2, j1, j2, j3, j4⟩ := id m3
      have z1 : w.heap.size + 1 < wr.heap.size + 1 + 1 := by omega
      have z2 : ¬ (w.heap.size + 1 = wr.heap.size) := by omega
      have z3 : ¬ (w.heap.size + 1 = wr.heap.size + 1) := by omega
      have z4 : ¬ (w.heap.size = wr.heap.size) := by omega
      have z6 : w.heap.size < wr.heap.size := by omega
      clear hq hq' hl v0 v1 v2 v3 n1 n2 n3 n4 c1 c2 c3 c4 hd hlen ok so
      go_wp2_with fail
      go_region_held3 (fun w' => w'.cell? ⟨b, off + k * 2, none⟩ = some (.float .f64 px) ∧ w'.cell? ⟨b, off + k * 2 + 1, none⟩ = some (.float .f64 py) ∧ w'.cell? ⟨w.heap.size + 2, 0, none⟩ = some (.float .f64 ox) ∧ w'.cell? ⟨w.heap.size + 2, 1, none⟩ = some (.float .f64 oy)) (simp [go_sem, *]) (fail)
      all_goals rename_i hHeld; clear hHeld
      all_goals go_wp2_with fail
      all_goals go_region_held3 (fun w' => w'.cell? ⟨b, off + (k + 1) * 2, none⟩ = some (.float .f64 qx) ∧ w'.cell? ⟨b, off + (k + 1) * 2 + 1, none⟩ = some (.float .f64 qy) ∧ w'.cell? ⟨w.heap.size + 2, 0, none⟩ = some (.float .f64 ox) ∧ w'.cell? ⟨w.heap.size + 2, 1, none⟩ = some (.float .f64 oy)) (simp [go_sem, *]) (fail)
      all_goals rename_i hHeld; clear hHeld
      all_goals go_wp2_with ((go_at_call 63; (first | (with_reducible refine (Ret.at_ext (HD.out _)).mono ?_) | (with_reducible refine (HD.out _).mono ?_)); rintro e w' ⟨rfl, u, rfl⟩))
      all_goals go_roundw
      case rel => exact ⟨k + 1, _, _, _, by omega, rfl, by go_num, hd5, s5, t5, (by repeat (first | (with_reducible exact Kp.refl _) | (with_reducible assumption) | (with_reducible apply Kp.ext) | (with_reducible apply Kp.alloc) | (with_reducible apply Kp.drew) | (with_reducible apply Kp.drewN) | (with_reducible refine Kp.setCell ?_ (by first | (dsimp only; omega) | (simp; omega) | (simp; done) | (simp [size_ext_eq]; omega)) _))), (m1.other (k := w.heap.size + 1) (by omega) _ _).kp (by repeat (first | (with_reducible exact Kp.refl _) | (with_reducible assumption) | (with_reducible apply Kp.ext) | (with_reducible apply Kp.alloc) | (with_reducible apply Kp.drew) | (with_reducible apply Kp.drewN) | (with_reducible refine Kp.setCell ?_ (by first | (dsimp only; omega) | (simp; omega) | (simp; done) | (simp [size_ext_eq]; omega)) _))), (m2.store _ _).kp (by repeat (first | (with_reducible exact Kp.refl _) | (with_reducible assumption) | (with_reducible apply Kp.ext) | (with_reducible apply Kp.alloc) | (with_reducible apply Kp.drew) | (with_reducible apply Kp.drewN) | (with_reducible refine Kp.setCell ?_ (by first | (dsimp only; omega) | (simp; omega) | (simp; done) | (simp [size_ext_eq]; omega)) _))), (m3.other (k := w.heap.size + 1) (by omega) _ _).kp (by repeat (first | (with_reducible exact Kp.refl _) | (with_reducible assumption) | (with_reducible apply Kp.ext) | (with_reducible apply Kp.alloc) | (with_reducible apply Kp.drew) | (with_reducible apply Kp.drewN) | (with_reducible refine Kp.setCell ?_ (by first | (dsimp only; omega) | (simp; omega) | (simp; done) | (simp [size_ext_eq]; omega)) _)))⟩
      case measure => simp [intOf]; omega
    · have hk3' : ((k : Int) < (l : Int)) = False := eq_false (by omega)
      obtain rfl : k = l := by omega
      have hbk : b < wr.heap.size := Nat.lt_of_lt_of_le hb hkp.size
      have e0 := Kp.cell hkp a0 hb
      have e1 := Kp.cell hkp a1 hb
      have hne : b ≠ w.heap.size + 1 := by omega
      have hne' : b ≠ w.heap.size := by omega
      obtain ⟨_, i1, p1, p2, p3, p4⟩ := id m1
      obtain ⟨_, i2, j1, j2, j3, j4⟩ := id m2
      have hD := Lib.hid hd
      rcases hd.cases (by omega) with hz | ⟨hz, q, vq, hfar, _⟩
      · clear hl m1 m2 m3 hd
        go_wp2_with fail
        exact bodyPost_ret (v := .tuple #[.agg #[.float .f64 ox, .float .f64 oy], .float .f64 0]) (by simp [results, Tryz.results54, go_sem, p1, p2]) rfl ⟨ox, oy, 0, rfl, (Bd.int (n := 10) u0 (by omega)).mono (by decide), (Bd.int (n := 10) u1 (by omega)).mono (by decide), LenV.zero _, _, ext_of (show Kp w _ from (by repeat (first | (with_reducible exact Kp.refl _) | (with_reducible assumption) | (with_reducible apply Kp.ext) | (with_reducible apply Kp.alloc) | (with_reducible apply Kp.drew) | (with_reducible apply Kp.drewN) | (with_reducible refine Kp.setCell ?_ (by first | (dsimp only; omega) | (simp; omega) | (simp; done) | (simp [size_ext_eq]; omega)) _))))⟩
      · obtain ⟨s1, s2, s3⟩ := mid_end hcx vq hfar (Bd.int (n := 10) u0 (by omega)) (by omega) (by omega)
        obtain ⟨t1, t2, t3⟩ := mid_end hcy vq hfar (Bd.int (n := 10) u1 (by omega)) (by omega) (by omega)
        clear m1 m2 m3 hd vq hfar
        go_wp2_with fail
        first | (with_reducible refine wp_region_ext_tail2 8 ?_ ?_ ?_) | refine wp_region_ext_tail 8 ?_ ?_ ?_
        kernel_rfl
        kernel_rfl
        simp only [List.take_succ_cons, List.take_zero, List.drop_succ_cons, List.drop_zero]
        repeat (go_big_quiet_step (fail))
        refine wpQuiet_nil ?_
        rintro _ ⟨u, rfl⟩
        go_wp2_with fail
        first | (with_reducible refine wp_region_ext_tail2 8 ?_ ?_ ?_) | refine wp_region_ext_tail 8 ?_ ?_ ?_
        kernel_rfl
        kernel_rfl
        simp only [List.take_succ_cons, List.take_zero, List.drop_succ_cons, List.drop_zero]
        repeat (go_big_quiet_step (fail))
        refine wpQuiet_nil ?_
        rintro _ ⟨u, rfl⟩
        go_wp2_with fail
        refine bodyPost_ret (v := .tuple #[.agg #[.float .f64 (fop .add (fop .quo cx d) ox), .float .f64 (fop .add (fop .quo cy d) oy)], .float .f64 d]) (by simp [results, Tryz.results54, go_sem, p1, p2, i1, i2]) rfl ?_
        exact ⟨_, _, d, rfl, s3.mono (by omega), t3.mono (by omega), hD.out.mono (by omega), _, ext_of (show Kp w _ from (by repeat (first | (with_reducible exact Kp.refl _) | (with_reducible assumption) | (with_reducible apply Kp.ext) | (with_reducible apply Kp.alloc) | (with_reducible apply Kp.drew) | (with_reducible apply Kp.drewN) | (with_reducible refine Kp.setCell ?_ (by first | (dsimp only; omega) | (simp; omega) | (simp; done) | (simp [size_ext_eq]; omega)) _))))⟩
end Go.Proofs.YtohidpmkoehmcaaGreatDoor
