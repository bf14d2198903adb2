/-
  laws.FnLength, walked: it answers true.
-/
import Derived.Test.YtcljppkejabibaaDoorLen
namespace Go.Proofs.YtcljppkejabibaaDoor
open PubFl Go.RowKit

attribute [local go_sem] cell_ext frozen_ext ext_setCell cell_store size_ext_eq lt_p0 lt_p1 lt_p2 lt_p3 lt_p4 lt_p5 lt_p6 lt_p7 lt_p8 lt_p9 lt_p10 lt_p11 lt_p12 lt_p13 lt_p14 lt_p15 lt_p16 lt_p17 lt_p18 lt_p19 lt_p20 lt_p21 lt_p22 lt_p23 lt_p24 lt_p25 lt_p26 lt_p27 lt_p28 lt_p29 lt_p30 lt_p31 lt_p32 lt_q1 lt_q2 lt_q3 lt_q4 lt_q5 lt_q6 lt_q7 lt_q8 lt_q9 lt_q10 lt_q11 lt_q12 lt_q13 lt_q14 lt_q15 lt_q16 lt_q17 lt_q18 lt_q19 lt_q20 lt_q21 lt_q22 lt_q23 lt_q24 lt_q25 lt_q26 lt_q27 lt_q28 lt_q29 lt_q30 lt_q31 lt_q32 run_fop run_store_float
attribute [local go_sem high] cmp_eql cmp_neq cmp_lss cmp_leq cmp_gtr cmp_geq

theorem pts_ints (ps : List (Nat × Nat)) (hbits : Bits ps) (h : arePtsB ps 100 = true) : ps.length ≤ 100 ∧ ∃ x y : Nat → Int, IntPts ps x y := by
  unfold arePtsB at h
  simp only [Bool.and_eq_true, decide_eq_true_eq, List.all_eq_true] at h
  obtain ⟨hall, hle⟩ := h
  have hp : ∀ i, i < ps.length → ∃ q : Int × Int, IsV (ps.getD i (0, 0)).1 q.1 ∧ IsV (ps.getD i (0, 0)).2 q.2 ∧ (-1000 ≤ q.1 ∧ q.1 ≤ 1000) ∧ (-1000 ≤ q.2 ∧ q.2 ≤ 1000) := fun i hi => by
    rw [getD_in _ _ hi]
    obtain ⟨g0, g1⟩ := hbits i hi
    obtain ⟨a, b, h1, h2, h3, h4⟩ := pointB_int g0 g1 (hall _ (List.getElem_mem hi))
    exact ⟨(a, b), h1, h2, h3, h4⟩
  obtain ⟨q, hq⟩ := Go.Deep.choose_lt hp
  exact ⟨by omega, fun i => (q i).1, fun i => (q i).2, fun i hi => by have := hq i hi; rwa [getD_in _ _ hi] at this⟩

set_option maxRecDepth 20000 in
set_option maxHeartbeats 2000000 in
theorem length_walk (a : Option Addr) (cap : Nat) (ps : List (Nat × Nat)) (hmax : ps.length ≤ maxLen) (w : World) (hs : PtsIn w a ps) (hbits : Bits ps) :
    Calls Tryd.prog 6 #[.slice a ps.length cap] w (Ret w (.bool true)) := by
  go_enter Tryd.func6, Tryd.ntmps6
  by_cases hbig : 2147483647 < ps.length
  · have h1 : ((2147483647 : Int) < (ps.length : Int)) = True := eq_true (by omega)
    go_wp2_with fail
    go_ret
    exact Ret.mk rfl (by repeat (first | (with_reducible exact Kp.refl _) | (with_reducible assumption) | (with_reducible apply Kp.ext) | (with_reducible apply Kp.alloc) | (with_reducible apply Kp.drew) | (with_reducible apply Kp.drewN) | (with_reducible refine Kp.setCell ?_ (by first | (dsimp only; omega) | (simp; omega) | (simp; done) | (simp [size_ext_eq]; omega)) _)))
  have h1 : ((2147483647 : Int) < (ps.length : Int)) = False := eq_false (by omega)
  have hn : ps.length ≤ 2147483647 := by omega
  have har := fun w' (hk : Kp w w') => arePoints_c a cap ps 100 hn w' (hs.kp hk) hbits
  cases c1 : arePtsB ps 100
  · rw [c1] at har
    have Har := Lib.hid har
    clear har hs hbits c1
    go_wp2_with (first | (go_at_call 19; (first | (with_reducible refine (Ret.at_ext (Har.out _ (by repeat (first | (with_reducible exact Kp.refl _) | (with_reducible assumption) | (with_reducible apply Kp.ext) | (with_reducible apply Kp.alloc) | (with_reducible apply Kp.drew) | (with_reducible apply Kp.drewN) | (with_reducible refine Kp.setCell ?_ (by first | (dsimp only; omega) | (simp; omega) | (simp; done) | (simp [size_ext_eq]; omega)) _))))).mono ?_) | (with_reducible refine (Har.out _ (by repeat (first | (with_reducible exact Kp.refl _) | (with_reducible assumption) | (with_reducible apply Kp.ext) | (with_reducible apply Kp.alloc) | (with_reducible apply Kp.drew) | (with_reducible apply Kp.drewN) | (with_reducible refine Kp.setCell ?_ (by first | (dsimp only; omega) | (simp; omega) | (simp; done) | (simp [size_ext_eq]; omega)) _)))).mono ?_)); rintro e w' ⟨rfl, u, rfl⟩) | (go_at_call 8; (first | (with_reducible refine (Ret.at_ext (measures_c _)).mono ?_) | (with_reducible refine (measures_c _).mono ?_)); rintro e w' ⟨rfl, u, rfl⟩))
    go_ret
    exact Ret.mk rfl (by repeat (first | (with_reducible exact Kp.refl _) | (with_reducible assumption) | (with_reducible apply Kp.ext) | (with_reducible apply Kp.alloc) | (with_reducible apply Kp.drew) | (with_reducible apply Kp.drewN) | (with_reducible refine Kp.setCell ?_ (by first | (dsimp only; omega) | (simp; omega) | (simp; done) | (simp [size_ext_eq]; omega)) _)))
  · rw [c1] at har
    have Har := Lib.hid har
    obtain ⟨hle, x, y, hi⟩ := pts_ints ps hbits c1
    have Hi := Lib.hid hi
    have Hs := Lib.hid hs
    clear har hs hbits c1 hi
    go_wp2_with (first | (go_at_call 19; (first | (with_reducible refine (Ret.at_ext (Har.out _ (by repeat (first | (with_reducible exact Kp.refl _) | (with_reducible assumption) | (with_reducible apply Kp.ext) | (with_reducible apply Kp.alloc) | (with_reducible apply Kp.drew) | (with_reducible apply Kp.drewN) | (with_reducible refine Kp.setCell ?_ (by first | (dsimp only; omega) | (simp; omega) | (simp; done) | (simp [size_ext_eq]; omega)) _))))).mono ?_) | (with_reducible refine (Har.out _ (by repeat (first | (with_reducible exact Kp.refl _) | (with_reducible assumption) | (with_reducible apply Kp.ext) | (with_reducible apply Kp.alloc) | (with_reducible apply Kp.drew) | (with_reducible apply Kp.drewN) | (with_reducible refine Kp.setCell ?_ (by first | (dsimp only; omega) | (simp; omega) | (simp; done) | (simp [size_ext_eq]; omega)) _)))).mono ?_)); rintro e w' ⟨rfl, u, rfl⟩))
    go_loopw [3, 4] (fun s3 s4 wr => ∃ (k s : Nat), (k = 0 ∨ k + 1 ≤ ps.length) ∧ s3 = .float .f64 s ∧ s4 = .int .i64 ((k : Int) + 1) ∧ IsV s (sumTo (lenT x y) k : Int) ∧ AxisTo x y k ∧ Kp w wr) (fun _ s4 _ => ps.length - (intOf s4).toNat)
    case atStart => exact ⟨0, 0, .inl rfl, rfl, rfl, zero_isV, fun i h => by omega, (by repeat (first | (with_reducible exact Kp.refl _) | (with_reducible assumption) | (with_reducible apply Kp.ext) | (with_reducible apply Kp.alloc) | (with_reducible apply Kp.drew) | (with_reducible apply Kp.drewN) | (with_reducible refine Kp.setCell ?_ (by first | (dsimp only; omega) | (simp; omega) | (simp; done) | (simp [size_ext_eq]; omega)) _)))⟩
    case round =>
      obtain ⟨k, s, hkn, rfl, rfl, hsv, hax, hkp⟩ := hrel
      have Hax := Lib.hid hax
      clear hax
      by_cases hlt : k + 1 < ps.length
      · obtain ⟨b, off, rfl, hb, hpt⟩ := Hs.out.cells (by omega)
        obtain ⟨e0, e1⟩ := hpt.kp hb hkp k (by omega)
        obtain ⟨f0, f1⟩ := hpt.kp hb hkp (k + 1) hlt
        obtain ⟨v0, v1, c1, c2⟩ := Hi.out k (by omega)
        obtain ⟨v2, v3, c3, c4⟩ := Hi.out (k + 1) hlt
        have hsum := sumTo_abs (t := lenT x y) (m := 4000) (n := k) fun i hik => by
          obtain ⟨_, _, d1, d2⟩ := Hi.out i (by omega)
          obtain ⟨_, _, d3, d4⟩ := Hi.out (i + 1) (by omega)
          unfold lenT; omega
        have hstep : sumTo (lenT x y) (k + 1) = sumTo (lenT x y) k + (((x (k + 1) - x k).natAbs : Int) + ((y (k + 1) - y k).natAbs : Int)) := rfl
        have nx := neF_int v2 v0
        have ny := neF_int v3 v1
        have hk1000 : (k : Int) ≤ 1000 := by omega
        obtain ⟨o1, w1⟩ := sub_int v2 v0 (by omega)
        obtain ⟨o2, w2⟩ := sub_int v3 v1 (by omega)
        obtain ⟨o3, w3⟩ := add_int (absF_int w1) (absF_int w2) (by omega)
        obtain ⟨o4, n8⟩ := add_int hsv w3 (by omega)
        rw [← hstep] at n8
        obtain ⟨⟨px, py⟩, hq⟩ : ∃ q, ps[k]'(by omega) = q := ⟨_, rfl⟩
        obtain ⟨⟨qx, qy⟩, hq'⟩ : ∃ q, ps[k + 1]'hlt = q := ⟨_, rfl⟩
        simp only [hq, hq'] at e0 e1 f0 f1 o1 o2 o3 o4 n8 nx ny
        have hbk : b < wr.heap.size := Nat.lt_of_lt_of_le hb hkp.size
        have hw2 : IntKind.i64.wrap (k : Int) = (k : Int) := wrap_in _ (by omega) (by omega)
        have hk0 : (0 : Int) ≤ (k : Int) := by omega
        have hk1 : (k : Int) < (ps.length : Int) := by omega
        have hk2 : (0 : Int) ≤ (k : Int) + 1 := by omega
        have hk3 : ((k : Int) + 1 < (ps.length : Int)) = True := eq_true (by omega)
        have hk4 : ((k : Int) + 1).toNat = k + 1 := by omega
        clear hq hq' hsum hstep c1 c2 c3 c4 v0 v1 v2 v3 w1 w2 w3 hpt
        by_cases hxe : x (k + 1) = x k
        · have hA := Lib.hid (show AxisTo x y (k + 1) from fun i hik => by
            by_cases h : i = k
            · subst h; exact .inl hxe
            · exact Hax.out i (by omega))
          rw [decide_eq_false (by simpa using hxe)] at nx
          clear ny hxe Hax
          go_wp2_with fail
          first | (with_reducible refine wp_region_ext_lit2 ?_ ?_ ?_) | refine wp_region_ext_lit ?_ ?_ ?_
          kernel_rfl
          kernel_rfl
          repeat (go_big_quiet_step (fail))
          refine wpQuiet_nil ?_
          rintro _ ⟨u, rfl⟩
          go_wp2_with fail
          first | (with_reducible refine wp_region_ext_lit2 ?_ ?_ ?_) | refine wp_region_ext_lit ?_ ?_ ?_
          kernel_rfl
          kernel_rfl
          repeat (go_big_quiet_step ((go_at_call 20; with_reducible exact Ret.quiet (abs_c _ _))))
          refine wpQuiet_nil ?_
          rintro _ ⟨u, rfl⟩
          go_wp2_with fail
          go_roundw
          case rel => exact ⟨k + 1, _, .inr (by omega), rfl, by go_num, n8, hA.out, (by repeat (first | (with_reducible exact Kp.refl _) | (with_reducible assumption) | (with_reducible apply Kp.ext) | (with_reducible apply Kp.alloc) | (with_reducible apply Kp.drew) | (with_reducible apply Kp.drewN) | (with_reducible refine Kp.setCell ?_ (by first | (dsimp only; omega) | (simp; omega) | (simp; done) | (simp [size_ext_eq]; omega)) _)))⟩
          case measure => simp [intOf]; omega
        · rw [decide_eq_true (by simpa using hxe)] at nx
          by_cases hye : y (k + 1) = y k
          · have hA := Lib.hid (show AxisTo x y (k + 1) from fun i hik => by
              by_cases h : i = k
              · subst h; exact .inr hye
              · exact Hax.out i (by omega))
            rw [decide_eq_false (by simpa using hye)] at ny
            clear hxe hye Hax
            go_wp2_with fail
            first | (with_reducible refine wp_region_ext_lit2 ?_ ?_ ?_) | refine wp_region_ext_lit ?_ ?_ ?_
            kernel_rfl
            kernel_rfl
            repeat (go_big_quiet_step (fail))
            refine wpQuiet_nil ?_
            rintro _ ⟨u, rfl⟩
            go_wp2_with fail
            first | (with_reducible refine wp_region_ext_lit2 ?_ ?_ ?_) | refine wp_region_ext_lit ?_ ?_ ?_
            kernel_rfl
            kernel_rfl
            repeat (go_big_quiet_step ((go_at_call 20; with_reducible exact Ret.quiet (abs_c _ _))))
            refine wpQuiet_nil ?_
            rintro _ ⟨u, rfl⟩
            go_wp2_with fail
            go_roundw
            case rel => exact ⟨k + 1, _, .inr (by omega), rfl, by go_num, n8, hA.out, (by repeat (first | (with_reducible exact Kp.refl _) | (with_reducible assumption) | (with_reducible apply Kp.ext) | (with_reducible apply Kp.alloc) | (with_reducible apply Kp.drew) | (with_reducible apply Kp.drewN) | (with_reducible refine Kp.setCell ?_ (by first | (dsimp only; omega) | (simp; omega) | (simp; done) | (simp [size_ext_eq]; omega)) _)))⟩
            case measure => simp [intOf]; omega
          · rw [decide_eq_true (by simpa using hye)] at ny
            clear hxe hye Hax
            go_wp2_with fail
            first | (with_reducible refine wp_region_ext_lit2 ?_ ?_ ?_) | refine wp_region_ext_lit ?_ ?_ ?_
            kernel_rfl
            kernel_rfl
            repeat (go_big_quiet_step (fail))
            refine wpQuiet_nil ?_
            rintro _ ⟨u, rfl⟩
            go_wp2_with (go_at_call 8; (first | (with_reducible refine (Ret.at_ext (measures_c _)).mono ?_) | (with_reducible refine (measures_c _).mono ?_)); rintro e w' ⟨rfl, u, rfl⟩)
            go_ret
            exact Ret.mk rfl (by repeat (first | (with_reducible exact Kp.refl _) | (with_reducible assumption) | (with_reducible apply Kp.ext) | (with_reducible apply Kp.alloc) | (with_reducible apply Kp.drew) | (with_reducible apply Kp.drewN) | (with_reducible refine Kp.setCell ?_ (by first | (dsimp only; omega) | (simp; omega) | (simp; done) | (simp [size_ext_eq]; omega)) _)))
      · have hk3 : ((k : Int) + 1 < (ps.length : Int)) = False := eq_false (by omega)
        have hk : k = ps.length - 1 := by omega
        rw [hk] at hsv
        have hax' : AxisTo x y (ps.length - 1) := hk ▸ Hax.out
        have hlen := Lib.hid (fun L c w' hL hc hin => implLen_c L c a cap ps (by omega) w' hL hc hin x y Hi.out hax')
        have hfin := Lib.hid (fun s' (hv : IsV s' (sumTo (lenT x y) (ps.length - 1) : Int)) => show eqF s' s = true by rw [eqF_isV hv hsv]; simp)
        have hkk : Kp w wr := hkp
        clear hk hax' hsv
        go_wp2_with (first | (go_at_call 8; (first | (with_reducible refine (Ret.at_ext (measures_c _)).mono ?_) | (with_reducible refine (measures_c _).mono ?_)); rintro e w' ⟨rfl, u, rfl⟩) | (go_at_call 21; (with_reducible refine (hlen.out _ _ _ (by rw [← size_ext_eq]; simp) (by rw [← size_ext_eq]; simp) (Hs.out.kp (by repeat (first | (with_reducible exact Kp.refl _) | (with_reducible assumption) | (with_reducible apply Kp.ext) | (with_reducible apply Kp.alloc) | (with_reducible apply Kp.drew) | (with_reducible apply Kp.drewN) | (with_reducible refine Kp.setCell ?_ (by first | (dsimp only; omega) | (simp; omega) | (simp; done) | (simp [size_ext_eq]; omega)) _))))).mono ?_); rintro e w2 ⟨s', rfl, hv, u, rfl⟩; have heq := hfin.out s' hv))
        go_ret
        exact Ret.mk rfl (by repeat (first | (with_reducible exact Kp.refl _) | (with_reducible assumption) | (with_reducible apply Kp.ext) | (with_reducible apply Kp.alloc) | (with_reducible apply Kp.drew) | (with_reducible apply Kp.drewN) | (with_reducible refine Kp.setCell ?_ (by first | (dsimp only; omega) | (simp; omega) | (simp; done) | (simp [size_ext_eq]; omega)) _)))
end Go.Proofs.YtcljppkejabibaaDoor
