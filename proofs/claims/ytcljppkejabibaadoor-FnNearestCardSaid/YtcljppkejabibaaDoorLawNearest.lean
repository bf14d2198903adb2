/-
  laws.FnNearest, walked: it answers true.
-/
import Derived.Test.YtcljppkejabibaaDoorNearest2
import Derived.Test.YtcljppkejabibaaDoorLawBox
namespace Go.Proofs.YtcljppkejabibaaDoor
open PubFl Go.RowKit

attribute [local go_sem] cell_ext frozen_ext ext_setCell cell_store size_ext_eq lt_p0 lt_p1 lt_p2 lt_p3 lt_p4 lt_p5 lt_p6 lt_p7 lt_p8 lt_p9 lt_p10 lt_p11 lt_p12 lt_p13 lt_p14 lt_p15 lt_p16 lt_p17 lt_p18 lt_p19 lt_p20 lt_p21 lt_p22 lt_p23 lt_p24 lt_p25 lt_p26 lt_p27 lt_p28 lt_p29 lt_p30 lt_p31 lt_p32 lt_q1 lt_q2 lt_q3 lt_q4 lt_q5 lt_q6 lt_q7 lt_q8 lt_q9 lt_q10 lt_q11 lt_q12 lt_q13 lt_q14 lt_q15 lt_q16 lt_q17 lt_q18 lt_q19 lt_q20 lt_q21 lt_q22 lt_q23 lt_q24 lt_q25 lt_q26 lt_q27 lt_q28 lt_q29 lt_q30 lt_q31 lt_q32 run_fop run_store_float
attribute [local go_sem high] cmp_eql cmp_neq cmp_lss cmp_leq cmp_gtr cmp_geq

theorem implDistance_c (ax ay bx by' : Nat) (h : DsqOk ax ay bx by') (hs : SOk (dsqF ax ay bx by')) (w : World) : Calls Tryd.prog 23 #[.agg #[.float .f64 ax, .float .f64 ay], .agg #[.float .f64 bx, .float .f64 by']] w (Ret w (.float .f64 (sqrtF (dsqF ax ay bx by')))) := by
  go_enter Tryd.func23, Tryd.ntmps23
  go_wp2_with (go_at_call 40; (first | (with_reducible refine (Ret.at_ext (distance_c _ _ _ _ h hs _)).mono ?_) | (with_reducible refine (distance_c _ _ _ _ h hs _).mono ?_)); rintro e w' ⟨rfl, u, rfl⟩)
  go_ret
  exact Ret.mk rfl (by repeat (first | (with_reducible exact Kp.refl _) | (with_reducible assumption) | (with_reducible apply Kp.ext) | (with_reducible apply Kp.alloc) | (with_reducible apply Kp.drew) | (with_reducible apply Kp.drewN) | (with_reducible refine Kp.setCell ?_ (by first | (dsimp only; omega) | (simp; omega) | (simp; done) | (simp [size_ext_eq]; omega)) _)))

theorem dist_ok {px py : Nat} {ps : List (Nat × Nat)} (hbits : Bits ps) (k1 : px < 2 ^ 64) (k2 : py < 2 ^ 64) (hA : arePtsB ps 60 = true) (hp : pointB px py = true) : ps.length ≤ 60 ∧ DistOk px py ps ∧ ∀ i, i < ps.length → ∃ q, IsV (sqrtF (dS px py ps i)) q := by
  unfold arePtsB at hA
  simp only [Bool.and_eq_true, decide_eq_true_eq, List.all_eq_true] at hA
  obtain ⟨hall, hle⟩ := hA
  obtain ⟨e, f, i3, i4, _, _⟩ := pointB_int k1 k2 hp
  have key : ∀ (i : Nat) (h : i < ps.length), DsqOk (ps[i]'h).1 (ps[i]'h).2 px py ∧ ∃ q, IsV (dS px py ps i) q ∧ 0 ≤ q ∧ SOk (dS px py ps i) ∧ ∃ r, IsV (sqrtF (dS px py ps i)) r := fun i hi => by
    obtain ⟨g0, g1⟩ := hbits i hi
    obtain ⟨a, b, i1, i2, _, _⟩ := pointB_int g0 g1 (hall _ (List.getElem_mem hi))
    obtain ⟨ok, v⟩ := dsq_int i1 i2 i3 i4 (by omega) (by omega) (by omega) (by omega)
    have hnn : 0 ≤ (a - e) * (a - e) + (b - f) * (b - f) := Int.add_nonneg (sq_nn _) (sq_nn _)
    have hd : dS px py ps i = dsqF (ps[i]'hi).1 (ps[i]'hi).2 px py := by unfold dS; rw [getD_in _ _ hi]
    have q1 : ((a - e) * (a - e)).natAbs ≤ 4000 * 4000 := by rw [Int.natAbs_mul]; exact Nat.mul_le_mul (by omega) (by omega)
    have q2 : ((b - f) * (b - f)).natAbs ≤ 4000 * 4000 := by rw [Int.natAbs_mul]; exact Nat.mul_le_mul (by omega) (by omega)
    obtain ⟨sok, r, hr, _⟩ := sqrtF_near v (int_le (a := 0) hnn) (huge_ge (Rat.le_trans (int_le (show (a - e) * (a - e) + (b - f) * (b - f) ≤ 32000000 by omega)) (by decide +kernel)))
    refine ⟨ok, ((a - e) * (a - e) + (b - f) * (b - f) : Int), ?_, int_le (a := 0) hnn, ?_, r, ?_⟩
    · rw [hd]; exact v
    · rw [hd]; exact sok
    · rw [hd]; exact hr
  refine ⟨by omega, ⟨fun i h => (key i h).1, fun i h => ?_⟩, fun i h => ?_⟩
  · obtain ⟨_, q, v, n, s, _⟩ := key i h
    exact ⟨q, v, n, s⟩
  · obtain ⟨_, q, v, n, s, r, hr⟩ := key i h
    exact ⟨r, hr⟩

set_option maxRecDepth 20000 in
set_option maxHeartbeats 1000000 in
theorem nearest_no (a : Option Addr) (cap : Nat) (ps : List (Nat × Nat)) (hmax : ps.length ≤ maxLen) (px py : Nat) (k1 : px < 2 ^ 64) (k2 : py < 2 ^ 64) (w : World) (hs : PtsIn w a ps) (hbits : Bits ps)
    (hno : 2147483647 < ps.length ∨ ps.length ≤ 2147483647 ∧ (arePtsB ps 60 && !decide (ps.length = 0) && pointB px py) = false) :
    Calls Tryd.prog 7 #[.slice a ps.length cap, .agg #[.float .f64 px, .float .f64 py]] w (Ret w (.bool true)) := by
  rcases hno with hbig | ⟨hn, hc⟩
  · have h1 : ((2147483647 : Int) < (ps.length : Int)) = True := eq_true (by omega)
    go_enter Tryd.func7, Tryd.ntmps7
    go_wp2_with fail
    go_ret
    exact Ret.mk rfl (by repeat (first | (with_reducible exact Kp.refl _) | (with_reducible assumption) | (with_reducible apply Kp.ext) | (with_reducible apply Kp.alloc) | (with_reducible apply Kp.drew) | (with_reducible apply Kp.drewN) | (with_reducible refine Kp.setCell ?_ (by first | (dsimp only; omega) | (simp; omega) | (simp; done) | (simp [size_ext_eq]; omega)) _)))
  · have h1 : ((2147483647 : Int) < (ps.length : Int)) = False := eq_false (by omega)
    have har := fun w' (hk : Kp w w') => arePoints_c a cap ps 60 hn w' (hs.kp hk) hbits
    cases c1 : arePtsB ps 60
    · rw [c1] at har
      have Har := Lib.hid har
      clear har hs hbits c1 hc
      go_enter Tryd.func7, Tryd.ntmps7
      go_wp2_with (first | (go_at_call 19; (first | (with_reducible refine (Ret.at_ext (Har.out _ (by repeat (first | (with_reducible exact Kp.refl _) | (with_reducible assumption) | (with_reducible apply Kp.ext) | (with_reducible apply Kp.alloc) | (with_reducible apply Kp.drew) | (with_reducible apply Kp.drewN) | (with_reducible refine Kp.setCell ?_ (by first | (dsimp only; omega) | (simp; omega) | (simp; done) | (simp [size_ext_eq]; omega)) _))))).mono ?_) | (with_reducible refine (Har.out _ (by repeat (first | (with_reducible exact Kp.refl _) | (with_reducible assumption) | (with_reducible apply Kp.ext) | (with_reducible apply Kp.alloc) | (with_reducible apply Kp.drew) | (with_reducible apply Kp.drewN) | (with_reducible refine Kp.setCell ?_ (by first | (dsimp only; omega) | (simp; omega) | (simp; done) | (simp [size_ext_eq]; omega)) _)))).mono ?_)); rintro e w' ⟨rfl, u, rfl⟩) | (go_at_call 8; (first | (with_reducible refine (Ret.at_ext (measures_c _)).mono ?_) | (with_reducible refine (measures_c _).mono ?_)); rintro e w' ⟨rfl, u, rfl⟩))
      go_ret
      exact Ret.mk rfl (by repeat (first | (with_reducible exact Kp.refl _) | (with_reducible assumption) | (with_reducible apply Kp.ext) | (with_reducible apply Kp.alloc) | (with_reducible apply Kp.drew) | (with_reducible apply Kp.drewN) | (with_reducible refine Kp.setCell ?_ (by first | (dsimp only; omega) | (simp; omega) | (simp; done) | (simp [size_ext_eq]; omega)) _)))
    · rw [c1] at har
      have Har := Lib.hid har
      by_cases c2 : ps.length = 0
      · have c3 : ((ps.length : Int) == 0) = true := beq_iff_eq.2 (by omega)
        have c4 : ((ps.length : Int) = 0) = True := eq_true (by omega)
        clear har hs hbits c1 hc c2
        go_enter Tryd.func7, Tryd.ntmps7
        go_wp2_with (first | (go_at_call 19; (first | (with_reducible refine (Ret.at_ext (Har.out _ (by repeat (first | (with_reducible exact Kp.refl _) | (with_reducible assumption) | (with_reducible apply Kp.ext) | (with_reducible apply Kp.alloc) | (with_reducible apply Kp.drew) | (with_reducible apply Kp.drewN) | (with_reducible refine Kp.setCell ?_ (by first | (dsimp only; omega) | (simp; omega) | (simp; done) | (simp [size_ext_eq]; omega)) _))))).mono ?_) | (with_reducible refine (Har.out _ (by repeat (first | (with_reducible exact Kp.refl _) | (with_reducible assumption) | (with_reducible apply Kp.ext) | (with_reducible apply Kp.alloc) | (with_reducible apply Kp.drew) | (with_reducible apply Kp.drewN) | (with_reducible refine Kp.setCell ?_ (by first | (dsimp only; omega) | (simp; omega) | (simp; done) | (simp [size_ext_eq]; omega)) _)))).mono ?_)); rintro e w' ⟨rfl, u, rfl⟩) | (go_at_call 8; (first | (with_reducible refine (Ret.at_ext (measures_c _)).mono ?_) | (with_reducible refine (measures_c _).mono ?_)); rintro e w' ⟨rfl, u, rfl⟩))
        go_ret
        exact Ret.mk rfl (by repeat (first | (with_reducible exact Kp.refl _) | (with_reducible assumption) | (with_reducible apply Kp.ext) | (with_reducible apply Kp.alloc) | (with_reducible apply Kp.drew) | (with_reducible apply Kp.drewN) | (with_reducible refine Kp.setCell ?_ (by first | (dsimp only; omega) | (simp; omega) | (simp; done) | (simp [size_ext_eq]; omega)) _)))
      · have c3 : ((ps.length : Int) == 0) = false := beq_eq_false_iff_ne.2 (by omega)
        have c4 : ((ps.length : Int) = 0) = False := eq_false (by omega)
        rw [c1, decide_eq_false c2] at hc
        have c5 : pointB px py = false := by simpa using hc
        clear har hs hbits c1 hc c2
        go_enter Tryd.func7, Tryd.ntmps7
        go_wp2_with (first | (go_at_call 19; (first | (with_reducible refine (Ret.at_ext (Har.out _ (by repeat (first | (with_reducible exact Kp.refl _) | (with_reducible assumption) | (with_reducible apply Kp.ext) | (with_reducible apply Kp.alloc) | (with_reducible apply Kp.drew) | (with_reducible apply Kp.drewN) | (with_reducible refine Kp.setCell ?_ (by first | (dsimp only; omega) | (simp; omega) | (simp; done) | (simp [size_ext_eq]; omega)) _))))).mono ?_) | (with_reducible refine (Har.out _ (by repeat (first | (with_reducible exact Kp.refl _) | (with_reducible assumption) | (with_reducible apply Kp.ext) | (with_reducible apply Kp.alloc) | (with_reducible apply Kp.drew) | (with_reducible apply Kp.drewN) | (with_reducible refine Kp.setCell ?_ (by first | (dsimp only; omega) | (simp; omega) | (simp; done) | (simp [size_ext_eq]; omega)) _)))).mono ?_)); rintro e w' ⟨rfl, u, rfl⟩) | (go_at_call 8; (first | (with_reducible refine (Ret.at_ext (measures_c _)).mono ?_) | (with_reducible refine (measures_c _).mono ?_)); rintro e w' ⟨rfl, u, rfl⟩) | (go_at_call 13; (first | (with_reducible refine (Ret.at_ext (point_c _ _ (by assumption) (by assumption) _)).mono ?_) | (with_reducible refine (point_c _ _ (by assumption) (by assumption) _).mono ?_)); rintro e w' ⟨rfl, u, rfl⟩))
        go_ret
        exact Ret.mk rfl (by repeat (first | (with_reducible exact Kp.refl _) | (with_reducible assumption) | (with_reducible apply Kp.ext) | (with_reducible apply Kp.alloc) | (with_reducible apply Kp.drew) | (with_reducible apply Kp.drewN) | (with_reducible refine Kp.setCell ?_ (by first | (dsimp only; omega) | (simp; omega) | (simp; done) | (simp [size_ext_eq]; omega)) _)))

set_option maxRecDepth 20000 in
set_option maxHeartbeats 2000000 in
theorem nearest_yes (b off cap : Nat) (ps : List (Nat × Nat)) (px py : Nat) (k1 : px < 2 ^ 64) (k2 : py < 2 ^ 64) (w : World) (hb : b < w.heap.size) (hpt : PtsAt w b off ps) (hbits : Bits ps)
    (c1 : arePtsB ps 60 = true) (c2 : ps.length ≠ 0) (c5 : pointB px py = true) :
    Calls Tryd.prog 7 #[.slice (some ⟨b, off, none⟩) ps.length cap, .agg #[.float .f64 px, .float .f64 py]] w (Ret w (.bool true)) := by
  obtain ⟨hle, hok, hsq⟩ := dist_ok hbits k1 k2 c1 c5
  have hs : PtsIn w (some ⟨b, off, none⟩) ps := .inr ⟨b, off, rfl, hb, hpt⟩
  have h1 : ((2147483647 : Int) < (ps.length : Int)) = False := eq_false (by omega)
  have har := fun w' (hk : Kp w w') => arePoints_c (some ⟨b, off, none⟩) cap ps 60 (by omega) w' (hs.kp hk) hbits
  rw [c1] at har
  have Har := Lib.hid har
  have c3 : ((ps.length : Int) == 0) = false := beq_eq_false_iff_ne.2 (by omega)
  have c4 : ((ps.length : Int) = 0) = False := eq_false (by omega)
  have Hpt := Lib.hid hpt
  have Hok := Lib.hid hok
  have Hsq := Lib.hid hsq
  have Hs := Lib.hid hs
  clear har hs hbits c1 hpt hok hsq
  go_enter Tryd.func7, Tryd.ntmps7
  go_wp2_with (first | (go_at_call 19; (first | (with_reducible refine (Ret.at_ext (Har.out _ (by repeat (first | (with_reducible exact Kp.refl _) | (with_reducible assumption) | (with_reducible apply Kp.ext) | (with_reducible apply Kp.alloc) | (with_reducible apply Kp.drew) | (with_reducible apply Kp.drewN) | (with_reducible refine Kp.setCell ?_ (by first | (dsimp only; omega) | (simp; omega) | (simp; done) | (simp [size_ext_eq]; omega)) _))))).mono ?_) | (with_reducible refine (Har.out _ (by repeat (first | (with_reducible exact Kp.refl _) | (with_reducible assumption) | (with_reducible apply Kp.ext) | (with_reducible apply Kp.alloc) | (with_reducible apply Kp.drew) | (with_reducible apply Kp.drewN) | (with_reducible refine Kp.setCell ?_ (by first | (dsimp only; omega) | (simp; omega) | (simp; done) | (simp [size_ext_eq]; omega)) _)))).mono ?_)); rintro e w' ⟨rfl, u, rfl⟩) | (go_at_call 13; (first | (with_reducible refine (Ret.at_ext (point_c _ _ (by assumption) (by assumption) _)).mono ?_) | (with_reducible refine (point_c _ _ (by assumption) (by assumption) _).mono ?_)); rintro e w' ⟨rfl, u, rfl⟩))
  go_loopw [5, 29] (fun s5 s29 wr => ∃ k : Nat, k ≤ ps.length ∧ s29 = .int .i64 k ∧ s5 = .int .i64 (bestF (dS px py ps) k : Nat) ∧ Kp w wr ∧ NewPt w wr w.heap.size px py) (fun _ s29 _ => ps.length - (intOf s29).toNat)
  case atStart => exact ⟨0, by omega, rfl, rfl, (by repeat (first | (with_reducible exact Kp.refl _) | (with_reducible assumption) | (with_reducible apply Kp.ext) | (with_reducible apply Kp.alloc) | (with_reducible apply Kp.drew) | (with_reducible apply Kp.drewN) | (with_reducible refine Kp.setCell ?_ (by first | (dsimp only; omega) | (simp; omega) | (simp; done) | (simp [size_ext_eq]; omega)) _))), (by repeat (first | assumption | ((with_reducible refine NewPt.at ?_ _ _ _ ?_) <;> (first | (simp; done) | (simp; omega) | omega | (simp [size_ext_eq]; done) | (simp [size_ext_eq]; omega))) | (with_reducible apply NewPt.alloc) | (with_reducible apply NewPt.drew) | (with_reducible apply NewPt.drewN) | (with_reducible apply NewPt.ext) | (with_reducible exact NewPt.store (by assumption) _ _) | (with_reducible refine NewPt.other ?_ (by omega) _ _)))⟩
  case round =>
    obtain ⟨k, hkn, rfl, rfl, hkp, m⟩ := hrel
    have hbk : b < wr.heap.size := Nat.lt_of_lt_of_le hb hkp.size
    obtain ⟨_, i1, p0, p1, z0, z1⟩ := id m
    by_cases hlt : k < ps.length
    · have hbl : bestF (dS px py ps) k < ps.length := by
        cases k with
        | zero => exact hlt
        | succ k => have := bestF_lt (dS px py ps) (k + 1) (by omega); omega
      obtain ⟨e0, e1⟩ := Hpt.out.kp hb hkp k hlt
      obtain ⟨f0, f1⟩ := Hpt.out.kp hb hkp _ hbl
      have ok := Hok.out.ok k hlt
      have ok2 := Hok.out.ok _ hbl
      have hd : dS px py ps k = dsqF (ps[k]'hlt).1 (ps[k]'hlt).2 px py := by unfold dS; rw [getD_in _ _ hlt]
      have hd2 : dS px py ps (bestF (dS px py ps) k) = dsqF (ps[bestF (dS px py ps) k]'hbl).1 (ps[bestF (dS px py ps) k]'hbl).2 px py := by
        generalize bestF (dS px py ps) k = bb at *
        unfold dS; rw [getD_in _ _ hbl]
      have hyes := bestF_yes (dS px py ps) k
      have hno := bestF_no (dS px py ps) k
      rw [hd, hd2] at hyes hno
      obtain ⟨⟨qx, qy⟩, hq⟩ : ∃ q, ps[k]'hlt = q := ⟨_, rfl⟩
      obtain ⟨⟨rx, ry⟩, hq2⟩ : ∃ q, ps[bestF (dS px py ps) k]'hbl = q := ⟨_, rfl⟩
      simp only [hq, hq2] at e0 e1 f0 f1 ok ok2 hyes hno
      clear hq hq2 hd hd2
      have Hyes := Lib.hid hyes
      have Hno := Lib.hid hno
      clear hyes hno
      generalize hbb : bestF (dS px py ps) k = bb at *
      have Hbb := Lib.hid hbb
      clear hbb
      have b0 : (0 : Int) ≤ (bb : Int) := by omega
      have b1 : (bb : Int) < (ps.length : Int) := by omega
      cases hl : ltF (dsqF qx qy px py) (dsqF rx ry px py)
      · have hbest := Hno.out hl
        have Hb := Lib.hid hbest
        clear hbest Hyes Hno
        go_wp2_with fail
        first | (with_reducible refine wp_region_ext_lit2 ?_ ?_ ?_) | refine wp_region_ext_lit ?_ ?_ ?_
        kernel_rfl
        kernel_rfl
        repeat (go_big_quiet_step ((go_at_call 18; with_reducible exact Ret.quiet (squared_c _ _ _ _ (by assumption) _))))
        refine wpQuiet_nil ?_
        rintro _ ⟨u, rfl⟩
        go_wp2_with fail
        go_roundw
        case rel => exact ⟨k + 1, by omega, by go_num, by rw [Hb.out], (by repeat (first | (with_reducible exact Kp.refl _) | (with_reducible assumption) | (with_reducible apply Kp.ext) | (with_reducible apply Kp.alloc) | (with_reducible apply Kp.drew) | (with_reducible apply Kp.drewN) | (with_reducible refine Kp.setCell ?_ (by first | (dsimp only; omega) | (simp; omega) | (simp; done) | (simp [size_ext_eq]; omega)) _))), (m.alloc _).ext _⟩
        case measure => simp [intOf]; omega
      · have hbest := Hyes.out hl
        have Hb := Lib.hid hbest
        clear hbest Hyes Hno
        go_wp2_with fail
        first | (with_reducible refine wp_region_ext_lit2 ?_ ?_ ?_) | refine wp_region_ext_lit ?_ ?_ ?_
        kernel_rfl
        kernel_rfl
        repeat (go_big_quiet_step ((go_at_call 18; with_reducible exact Ret.quiet (squared_c _ _ _ _ (by assumption) _))))
        refine wpQuiet_nil ?_
        rintro _ ⟨u, rfl⟩
        go_wp2_with fail
        go_roundw
        case rel => exact ⟨k + 1, by omega, by go_num, by rw [Hb.out], (by repeat (first | (with_reducible exact Kp.refl _) | (with_reducible assumption) | (with_reducible apply Kp.ext) | (with_reducible apply Kp.alloc) | (with_reducible apply Kp.drew) | (with_reducible apply Kp.drewN) | (with_reducible refine Kp.setCell ?_ (by first | (dsimp only; omega) | (simp; omega) | (simp; done) | (simp [size_ext_eq]; omega)) _))), (m.alloc _).ext _⟩
        case measure => simp [intOf]; omega
    · obtain rfl : k = ps.length := by omega
      have hbl : bestF (dS px py ps) ps.length < ps.length := bestF_lt _ _ (by omega)
      obtain ⟨f0, f1⟩ := Hpt.out.kp hb hkp _ hbl
      have ok2 := Hok.out.ok _ hbl
      obtain ⟨_, _, _, so⟩ := Hok.out.v _ hbl
      obtain ⟨qq, vq⟩ := Hsq.out _ hbl
      have hdf := fun L c w' hL hc hin => distFrom_c L c (some ⟨b, off, none⟩) cap ps (by omega) (by omega) w' hL hc hin px py Hok.out _ _ rfl rfl
      have hd2 : dS px py ps (bestF (dS px py ps) ps.length) = dsqF (ps[bestF (dS px py ps) ps.length]'hbl).1 (ps[bestF (dS px py ps) ps.length]'hbl).2 px py := by
        generalize bestF (dS px py ps) ps.length = bb at *
        unfold dS; rw [getD_in _ _ hbl]
      rw [hd2] at so vq hdf
      obtain ⟨⟨rx, ry⟩, hq2⟩ : ∃ q, ps[bestF (dS px py ps) ps.length]'hbl = q := ⟨_, rfl⟩
      simp only [hq2] at f0 f1 ok2 so vq hdf
      clear hq2 hd2
      generalize bestF (dS px py ps) ps.length = bb at *
      have b0 : (0 : Int) ≤ (bb : Int) := by omega
      have b1 : (bb : Int) < (ps.length : Int) := by omega
      have heq : eqF (sqrtF (dsqF rx ry px py)) (sqrtF (dsqF rx ry px py)) = true := by rw [eqF_isV vq vq]; simp
      have Hdf := Lib.hid hdf
      have hkk : Kp w wr := hkp
      clear hdf vq
      go_wp2_with (go_at_call 22; (first | (with_reducible refine (Ret.at_ext (Hdf.out _ _ _ (by simp) (by simp) (Hs.out.kp (by repeat (first | (with_reducible exact Kp.refl _) | (with_reducible assumption) | (with_reducible apply Kp.ext) | (with_reducible apply Kp.alloc) | (with_reducible apply Kp.drew) | (with_reducible apply Kp.drewN) | (with_reducible refine Kp.setCell ?_ (by first | (dsimp only; omega) | (simp; omega) | (simp; done) | (simp [size_ext_eq]; omega)) _)))))).mono ?_) | (with_reducible refine (Hdf.out _ _ _ (by simp) (by simp) (Hs.out.kp (by repeat (first | (with_reducible exact Kp.refl _) | (with_reducible assumption) | (with_reducible apply Kp.ext) | (with_reducible apply Kp.alloc) | (with_reducible apply Kp.drew) | (with_reducible apply Kp.drewN) | (with_reducible refine Kp.setCell ?_ (by first | (dsimp only; omega) | (simp; omega) | (simp; done) | (simp [size_ext_eq]; omega)) _))))).mono ?_)); rintro e w' ⟨rfl, u, rfl⟩)
      first | (with_reducible refine wp_region_ext_lit2 ?_ ?_ ?_) | refine wp_region_ext_lit ?_ ?_ ?_
      kernel_rfl
      kernel_rfl
      repeat (go_big_quiet_step (first | (go_at_call 8; with_reducible exact Ret.quiet (measures_c _)) | (go_at_call 23; with_reducible exact Ret.quiet (implDistance_c _ _ _ _ ok2 so _))))
      refine wpQuiet_nil ?_
      rintro _ ⟨u, rfl⟩
      go_wp2_with fail
      go_ret
      exact Ret.mk rfl (by repeat (first | (with_reducible exact Kp.refl _) | (with_reducible assumption) | (with_reducible apply Kp.ext) | (with_reducible apply Kp.alloc) | (with_reducible apply Kp.drew) | (with_reducible apply Kp.drewN) | (with_reducible refine Kp.setCell ?_ (by first | (dsimp only; omega) | (simp; omega) | (simp; done) | (simp [size_ext_eq]; omega)) _)))

theorem nearest_walk (a : Option Addr) (cap : Nat) (ps : List (Nat × Nat)) (px py : Nat) (hmax : ps.length ≤ maxLen) (w : World) (hs : PtsIn w a ps) (hbits : Bits ps) (k1 : px < 2 ^ 64) (k2 : py < 2 ^ 64) :
    Calls Tryd.prog 7 #[.slice a ps.length cap, .agg #[.float .f64 px, .float .f64 py]] w (Ret w (.bool true)) := by
  by_cases hbig : 2147483647 < ps.length
  · exact nearest_no a cap ps hmax px py k1 k2 w hs hbits (.inl hbig)
  · by_cases hc : (arePtsB ps 60 && !decide (ps.length = 0) && pointB px py) = true
    · simp only [Bool.and_eq_true, Bool.not_eq_true', decide_eq_false_iff_not] at hc
      obtain ⟨⟨c1, c2⟩, c5⟩ := hc
      obtain ⟨b, off, rfl, hb, hpt⟩ := hs.cells (by omega)
      exact nearest_yes b off cap ps px py k1 k2 w hb hpt hbits c1 c2 c5
    · exact nearest_no a cap ps hmax px py k1 k2 w hs hbits (.inr ⟨by omega, by simpa using hc⟩)
end Go.Proofs.YtcljppkejabibaaDoor
