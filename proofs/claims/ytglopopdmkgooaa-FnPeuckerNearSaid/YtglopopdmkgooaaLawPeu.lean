/-
  laws.FnPeuckerNear, walked: it answers true.
-/
import Derived.Test.YtglopopdmkgooaaLawKeep
import Derived.Test.YtglopopdmkgooaaLawSegAny
namespace Go.Proofs.Ytglopopdmkgooaa
open PubFl Go.RowKit PubVis

attribute [local go_sem] cell_ext frozen_ext ext_setCell cell_store size_ext_eq lt_p0 lt_p1 lt_p2 lt_p3 lt_p4 lt_p5 lt_p6 lt_p7 lt_p8 lt_p9 lt_p10 lt_p11 lt_p12 lt_p13 lt_p14 lt_p15 lt_p16 lt_p17 lt_p18 lt_p19 lt_p20 lt_p21 lt_p22 lt_p23 lt_p24 lt_p25 lt_p26 lt_p27 lt_p28 lt_p29 lt_p30 lt_p31 lt_p32 lt_q1 lt_q2 lt_q3 lt_q4 lt_q5 lt_q6 lt_q7 lt_q8 lt_q9 lt_q10 lt_q11 lt_q12 lt_q13 lt_q14 lt_q15 lt_q16 lt_q17 lt_q18 lt_q19 lt_q20 lt_q21 lt_q22 lt_q23 lt_q24 lt_q25 lt_q26 lt_q27 lt_q28 lt_q29 lt_q30 lt_q31 lt_q32 run_fop run_store_float
attribute [local go_sem high] cmp_eql cmp_neq cmp_lss cmp_leq cmp_gtr cmp_geq

set_option maxRecDepth 20000 in
set_option maxHeartbeats 1000000 in
theorem peu_no (a : Option Addr) (cap : Nat) (ps : List (Nat × Nat)) (hmax : ps.length ≤ maxLen) (hcap : ps.length ≤ cap) (thr : Int) (w : World) (hs : PtsIn w a ps) (hbits : Bits ps)
    (hno : 2147483647 < ps.length ∨ ps.length ≤ 2147483647 ∧ (lineB ps = false ∨ thr < 0 ∨ 1000 < thr)) :
    Calls Try.prog 4 #[.slice a ps.length cap, .int .i64 thr] w (Ret w (.bool true)) := by
  rcases hno with hbig | ⟨hn, hc⟩
  · have h1 : ((2147483647 : Int) < (ps.length : Int)) = True := eq_true (by omega)
    go_enter Try.func4, Try.ntmps4
    go_wp2_with fail
    go_ret
    exact Ret.mk rfl (by repeat (first | (with_reducible exact Kp.refl _) | (with_reducible assumption) | (with_reducible apply Kp.ext) | (with_reducible apply Kp.alloc) | (with_reducible apply Kp.drew) | (with_reducible apply Kp.drewN) | (with_reducible refine Kp.setCell ?_ (by first | (dsimp only; omega) | (simp; omega) | (simp; done) | (simp [size_ext_eq]; omega)) _)))
  · have h1 : ((2147483647 : Int) < (ps.length : Int)) = False := eq_false (by omega)
    have HL := Lib.hid (fun w' (hk : Kp w w') => isLine_c a cap ps hn hcap w' (hs.kp hk) hbits)
    cases c1 : lineB ps
    · rw [c1] at HL
      clear c1 hc
      go_enter Try.func4, Try.ntmps4
      go_wp2_with (first | (go_at_call 7; (first | (with_reducible refine (Ret.at_ext (HL.out _ (by repeat (first | (with_reducible exact Kp.refl _) | (with_reducible assumption) | (with_reducible apply Kp.ext) | (with_reducible apply Kp.alloc) | (with_reducible apply Kp.drew) | (with_reducible apply Kp.drewN) | (with_reducible refine Kp.setCell ?_ (by first | (dsimp only; omega) | (simp; omega) | (simp; done) | (simp [size_ext_eq]; omega)) _))))).mono ?_) | (with_reducible refine (HL.out _ (by repeat (first | (with_reducible exact Kp.refl _) | (with_reducible assumption) | (with_reducible apply Kp.ext) | (with_reducible apply Kp.alloc) | (with_reducible apply Kp.drew) | (with_reducible apply Kp.drewN) | (with_reducible refine Kp.setCell ?_ (by first | (dsimp only; omega) | (simp; omega) | (simp; done) | (simp [size_ext_eq]; omega)) _)))).mono ?_)); rintro e w' ⟨rfl, u, rfl⟩) | (go_at_call 8; (first | (with_reducible refine (Ret.at_ext (simple_c _)).mono ?_) | (with_reducible refine (simple_c _).mono ?_)); rintro e w' ⟨rfl, u, rfl⟩))
      go_ret
      exact Ret.mk rfl (by repeat (first | (with_reducible exact Kp.refl _) | (with_reducible assumption) | (with_reducible apply Kp.ext) | (with_reducible apply Kp.alloc) | (with_reducible apply Kp.drew) | (with_reducible apply Kp.drewN) | (with_reducible refine Kp.setCell ?_ (by first | (dsimp only; omega) | (simp; omega) | (simp; done) | (simp [size_ext_eq]; omega)) _)))
    · rw [c1] at HL hc
      simp only [Bool.true_eq_false, false_or] at hc
      clear c1
      by_cases d0 : thr < 0
      · have e0 : (thr < 0) = True := eq_true d0
        clear hc d0
        go_enter Try.func4, Try.ntmps4
        go_wp2_with (first | (go_at_call 7; (first | (with_reducible refine (Ret.at_ext (HL.out _ (by repeat (first | (with_reducible exact Kp.refl _) | (with_reducible assumption) | (with_reducible apply Kp.ext) | (with_reducible apply Kp.alloc) | (with_reducible apply Kp.drew) | (with_reducible apply Kp.drewN) | (with_reducible refine Kp.setCell ?_ (by first | (dsimp only; omega) | (simp; omega) | (simp; done) | (simp [size_ext_eq]; omega)) _))))).mono ?_) | (with_reducible refine (HL.out _ (by repeat (first | (with_reducible exact Kp.refl _) | (with_reducible assumption) | (with_reducible apply Kp.ext) | (with_reducible apply Kp.alloc) | (with_reducible apply Kp.drew) | (with_reducible apply Kp.drewN) | (with_reducible refine Kp.setCell ?_ (by first | (dsimp only; omega) | (simp; omega) | (simp; done) | (simp [size_ext_eq]; omega)) _)))).mono ?_)); rintro e w' ⟨rfl, u, rfl⟩) | (go_at_call 8; (first | (with_reducible refine (Ret.at_ext (simple_c _)).mono ?_) | (with_reducible refine (simple_c _).mono ?_)); rintro e w' ⟨rfl, u, rfl⟩))
        go_ret
        exact Ret.mk rfl (by repeat (first | (with_reducible exact Kp.refl _) | (with_reducible assumption) | (with_reducible apply Kp.ext) | (with_reducible apply Kp.alloc) | (with_reducible apply Kp.drew) | (with_reducible apply Kp.drewN) | (with_reducible refine Kp.setCell ?_ (by first | (dsimp only; omega) | (simp; omega) | (simp; done) | (simp [size_ext_eq]; omega)) _)))
      · have e0 : (thr < 0) = False := eq_false d0
        have e1 : (1000 < thr) = True := eq_true (by omega)
        clear hc d0
        go_enter Try.func4, Try.ntmps4
        go_wp2_with (first | (go_at_call 7; (first | (with_reducible refine (Ret.at_ext (HL.out _ (by repeat (first | (with_reducible exact Kp.refl _) | (with_reducible assumption) | (with_reducible apply Kp.ext) | (with_reducible apply Kp.alloc) | (with_reducible apply Kp.drew) | (with_reducible apply Kp.drewN) | (with_reducible refine Kp.setCell ?_ (by first | (dsimp only; omega) | (simp; omega) | (simp; done) | (simp [size_ext_eq]; omega)) _))))).mono ?_) | (with_reducible refine (HL.out _ (by repeat (first | (with_reducible exact Kp.refl _) | (with_reducible assumption) | (with_reducible apply Kp.ext) | (with_reducible apply Kp.alloc) | (with_reducible apply Kp.drew) | (with_reducible apply Kp.drewN) | (with_reducible refine Kp.setCell ?_ (by first | (dsimp only; omega) | (simp; omega) | (simp; done) | (simp [size_ext_eq]; omega)) _)))).mono ?_)); rintro e w' ⟨rfl, u, rfl⟩) | (go_at_call 8; (first | (with_reducible refine (Ret.at_ext (simple_c _)).mono ?_) | (with_reducible refine (simple_c _).mono ?_)); rintro e w' ⟨rfl, u, rfl⟩))
        go_ret
        exact Ret.mk rfl (by repeat (first | (with_reducible exact Kp.refl _) | (with_reducible assumption) | (with_reducible apply Kp.ext) | (with_reducible apply Kp.alloc) | (with_reducible apply Kp.drew) | (with_reducible apply Kp.drewN) | (with_reducible refine Kp.setCell ?_ (by first | (dsimp only; omega) | (simp; omega) | (simp; done) | (simp [size_ext_eq]; omega)) _)))

set_option maxRecDepth 100000 in
set_option maxHeartbeats 4000000 in
theorem peu_yes (a : Option Addr) (cap thr : Nat) (ps : List (Nat × Nat)) (hcap : ps.length ≤ cap) (w : World) (hs : PtsIn w a ps) (hbits : Bits ps) (c1 : lineB ps = true) (ht : thr ≤ 1000) :
    Calls Try.prog 4 #[.slice a ps.length cap, .int .i64 (thr : Nat)] w (Ret w (.bool true)) := by
  obtain ⟨h2, h40, X, Y, hX⟩ := lineB_i hbits c1
  obtain ⟨D, q, F⟩ := hX.seg
  have vt := fl_isV (n := (thr : Int)) (by omega)
  obtain ⟨mo, vm, _⟩ := most_t vt (by omega) (by omega)
  have h1 : ((2147483647 : Int) < (ps.length : Int)) = False := eq_false (by omega)
  have HL := Lib.hid (fun w' (hk : Kp w w') => isLine_c a cap ps (by omega) hcap w' (hs.kp hk) hbits)
  rw [c1] at HL
  have T0 : (0 : Rat) ≤ (((thr : Int) * (thr : Int) : Int) : Rat) := int_le (a := 0) (Int.mul_nonneg (by omega) (by omega))
  have HK := Lib.hid (fun w' (hk : Kp w w') => peucker_c a cap (fl thr) ps X Y D q _ F mo.o1 vm T0 (by omega) h2 w' (hs.kp hk))
  have HP := Lib.hid (fun a' cap' L h0 hl w' (hk : Kp w w') hs' => isPart_c a' a cap' cap ps L (by omega) h2 (fun i j hi hj => hX.eq hi hj) h0 hl w' hs' (hs.kp hk))
  have HN := Lib.hid (fun a b i ha hb hi hab hq => hX.near F vt (by omega) (by omega) (a := a) (b := b) (i := i) ha hb hi hab hq)
  obtain ⟨bo, off, rfl, hb, hpt⟩ := hs.cells (by omega)
  have Hpt := Lib.hid hpt
  have hfl : ∀ n : Int, floatOfInt .f64 n = fl n := fun _ => rfl
  have e0 : ((thr : Int) < 0) = False := eq_false (by omega)
  have e1 : ((1000 : Int) < (thr : Int)) = False := eq_false (by omega)
  clear c1 hX hs vt vm mo T0 F hpt
  go_enter Try.func4, Try.ntmps4
  go_wp2_with (first | (go_at_call 7; (first | (with_reducible refine (Ret.at_ext (HL.out _ (by repeat (first | (with_reducible exact Kp.refl _) | (with_reducible assumption) | (with_reducible apply Kp.ext) | (with_reducible apply Kp.alloc) | (with_reducible apply Kp.drew) | (with_reducible apply Kp.drewN) | (with_reducible refine Kp.setCell ?_ (by first | (dsimp only; omega) | (simp; omega) | (simp; done) | (simp [size_ext_eq]; omega)) _))))).mono ?_) | (with_reducible refine (HL.out _ (by repeat (first | (with_reducible exact Kp.refl _) | (with_reducible assumption) | (with_reducible apply Kp.ext) | (with_reducible apply Kp.alloc) | (with_reducible apply Kp.drew) | (with_reducible apply Kp.drewN) | (with_reducible refine Kp.setCell ?_ (by first | (dsimp only; omega) | (simp; omega) | (simp; done) | (simp [size_ext_eq]; omega)) _)))).mono ?_)); rintro e w' ⟨rfl, u, rfl⟩) | (go_at_call 11; (with_reducible refine (HK.out _ (by repeat (first | (with_reducible exact Kp.refl _) | (with_reducible assumption) | (with_reducible apply Kp.ext) | (with_reducible apply Kp.alloc) | (with_reducible apply Kp.drew) | (with_reducible apply Kp.drewN) | (with_reducible refine Kp.setCell ?_ (by first | (dsimp only; omega) | (simp; omega) | (simp; done) | (simp [size_ext_eq]; omega)) _)))).mono ?_); rintro e w1 h; obtain ⟨out, a1, c1, u1, hP, rfl, hu, hin, _⟩ := h.out; have HOut := Lib.hid (And.intro hP (And.intro hu hin)); clear h hP hu hin))
  obtain ⟨hP, hu, hin⟩ := HOut.out
  obtain ⟨L, hres, rfl⟩ := hP
  have hkw : Kp w w1 := by rw [hu]; exact (by repeat (first | (with_reducible exact Kp.refl _) | (with_reducible assumption) | (with_reducible apply Kp.ext) | (with_reducible apply Kp.alloc) | (with_reducible apply Kp.drew) | (with_reducible apply Kp.drewN) | (with_reducible refine Kp.setCell ?_ (by first | (dsimp only; omega) | (simp; omega) | (simp; done) | (simp [size_ext_eq]; omega)) _)))
  rw [List.length_map, kept_length]
  have hc2 := cnt_two_le h2 hres.k0 hres.kn
  have hcn := cnt_le L ps.length
  have hkl := kept_length L ps.length
  have hlast := idx_get (kept_last (L := L) (n := ps.length) (by omega) hres.kn)
  have hpp := HP.out a1 c1 L hres.k0 hres.kn w1 hkw hin
  have HP2 := Lib.hid hpp
  have Hk := Lib.hid hkw
  have Hres := Lib.hid hres
  obtain ⟨m, hm⟩ : ∃ m, cnt L ps.length = m := ⟨_, rfl⟩
  rw [hm] at HP2 hc2 hcn hkl hlast ⊢
  have Hl := Lib.hid hlast
  have Hkl := Lib.hid hkl
  clear hu hin hpp hkw hm hlast hkl HOut HK HP hres
  go_upto_if 50 with (go_at_call 10; (with_reducible refine (HP2.out).mono ?_); rintro e w2 hpost; obtain ⟨g, gc, u2, rfl, hu2, hg, hcell⟩ := hpost.form (by rw [Hkl.out]; omega); rw [Hkl.out] at hcell ⊢; have c0 := hcell (m - 1) (by omega); rw [Hl.out] at c0; have HU := Lib.hid hu2; have Hcell := Lib.hid hcell; clear hpost hu2 hcell; have i1 : ((ps.length - 1 : Nat) : Int) = (ps.length : Int) - 1 := (by omega); rw [i1] at c0; clear i1; have j1 : ((m : Int) - 1).toNat = m - 1 := (by omega); have j2 : (0 : Int) ≤ (m : Int) - 1 := (by omega))
  have hk2' : Kp w w2 := by rw [HU.out]; exact Hk.out.ext u2
  have Hk2 := Lib.hid hk2'
  clear hk2' HU c0 j1 j2
  go_wp2_with fail
  go_loopw [9] (fun s9 wr => ∃ i : Nat, 1 ≤ i ∧ i ≤ m ∧ s9 = .int .i64 (i : Nat) ∧ Kp w2 wr) (fun s9 _ => m - (intOf s9).toNat)
  case atStart => exact ⟨1, by omega, by omega, rfl, (by repeat (first | (with_reducible exact Kp.refl _) | (with_reducible assumption) | (with_reducible apply Kp.ext) | (with_reducible apply Kp.alloc) | (with_reducible apply Kp.drew) | (with_reducible apply Kp.drewN) | (with_reducible refine Kp.setCell ?_ (by first | (dsimp only; omega) | (simp; omega) | (simp; done) | (simp [size_ext_eq]; omega)) _)))⟩
  case round =>
    obtain ⟨i, hi1, him, rfl, hkp⟩ := hrel
    by_cases hlt : i < m
    · have hkl := Hkl.out
      obtain ⟨x, hx⟩ : ∃ x, (kept L ps.length)[i - 1]? = some x := ⟨_, List.getElem?_eq_getElem (by omega)⟩
      obtain ⟨y, hy⟩ : ∃ y, (kept L ps.length)[i]? = some y := ⟨_, List.getElem?_eq_getElem (by omega)⟩
      obtain ⟨hxy, hyn, hLx, hLy, hgap⟩ := kept_step (j := i - 1) hx (by rw [show i - 1 + 1 = i by omega]; exact hy)
      have hnear := Lib.hid (Hres.out.near x y hxy hyn hLx hLy hgap)
      have cx := (Hcell.out (i - 1) (by omega)).trans (idx_get hx)
      have cy := (Hcell.out i (by omega)).trans (idx_get hy)
      have cx := Kp.cell hkp cx hg
      have cy := Kp.cell hkp cy hg
      have hgr : g < wr.heap.size := Nat.lt_of_lt_of_le hg hkp.size
      have w1' : IntKind.i64.wrap ((i : Int) - 1) = (i : Int) - 1 := wrap_in2 _ (by omega) (by omega)
      have n1 : ((i : Int) - 1).toNat = i - 1 := by omega
      have l3 : (0 : Int) ≤ (i : Int) - 1 := by omega
      have l4 : (i : Int) - 1 < (m : Int) := by omega
      have l5 : (i : Int) < (m : Int) := by omega
      generalize wr = wo at *
      clear hx hy hLx hLy hgap hkl
      go_wp2_with fail
      go_loopw [10] (fun s10 wr => ∃ k : Nat, x + 1 ≤ k ∧ k ≤ y ∧ s10 = .int .i64 (k : Nat) ∧ Kp wo wr) (fun s10 _ => y - (intOf s10).toNat)
      case atStart => exact ⟨x + 1, by omega, by omega, by go_num, (by repeat (first | (with_reducible exact Kp.refl _) | (with_reducible assumption) | (with_reducible apply Kp.ext) | (with_reducible apply Kp.alloc) | (with_reducible apply Kp.drew) | (with_reducible apply Kp.drewN) | (with_reducible refine Kp.setCell ?_ (by first | (dsimp only; omega) | (simp; omega) | (simp; done) | (simp [size_ext_eq]; omega)) _)))⟩
      case round =>
        obtain ⟨k, hxk, hky, rfl, hkj⟩ := hrel
        have cxr := Kp.cell hkj cx hgr
        have cyr := Kp.cell hkj cy hgr
        have hgq : g < wr.heap.size := Nat.lt_of_lt_of_le hgr hkj.size
        by_cases hkl : k < y
        · have hkw := Hk2.out.trans (hkp.trans hkj)
          have hnw := Lib.hid (HN.out x y k (by omega) hyn (by omega) (by omega) (hnear.out k (by omega) hkl))
          have hbw : bo < wr.heap.size := Nat.lt_of_lt_of_le hb hkw.size
          obtain ⟨x0, x1⟩ := Hpt.out.kp hb hkw x (by omega)
          obtain ⟨y0, y1⟩ := Hpt.out.kp hb hkw y (by omega)
          obtain ⟨z0, z1⟩ := Hpt.out.kp hb hkw k (by omega)
          obtain ⟨⟨qx, qx'⟩, hq1⟩ : ∃ p, ps[x]'(by omega) = p := ⟨_, rfl⟩
          obtain ⟨⟨qy, qy'⟩, hq2⟩ : ∃ p, ps[y]'(by omega) = p := ⟨_, rfl⟩
          obtain ⟨⟨qz, qz'⟩, hq3⟩ : ∃ p, ps[k]'(by omega) = p := ⟨_, rfl⟩
          simp only [hq1, hq2, hq3] at x0 x1 y0 y1 z0 z1 hnw
          have l6 : (x : Int) < (ps.length : Int) := by omega
          have l7 : (y : Int) < (ps.length : Int) := by omega
          have l8 : (k : Int) < (ps.length : Int) := by omega
          clear hq1 hq2 hq3 hkw
          go_wp2_with fail
          first | (with_reducible refine wp_region_ext_lit2 ?_ ?_ ?_) | refine wp_region_ext_lit ?_ ?_ ?_
          kernel_rfl
          kernel_rfl
          repeat (go_big_quiet_step ((go_at_call 12; with_reducible exact Ret.quiet (near_c _ _ _ _ _ _ _ _ hnw.out _))))
          refine wpQuiet_nil ?_
          rintro _ ⟨u, rfl⟩
          go_wp2_with fail
          go_roundw
          case rel => exact ⟨k + 1, by omega, by omega, by go_num, hkj.ext u⟩
          case measure => simp [intOf]; omega
        · have hk1 : k = y := by omega
          subst hk1
          go_wp2_with fail
          go_roundw
          case rel => exact ⟨i + 1, by omega, by omega, by go_num, hkp.trans hkj⟩
          case measure => simp [intOf]; omega
    · go_wp2_with (go_at_call 8; (first | (with_reducible refine (Ret.at_ext (simple_c _)).mono ?_) | (with_reducible refine (simple_c _).mono ?_)); rintro e w' ⟨rfl, u, rfl⟩)
      go_ret
      exact Ret.mk rfl ((Hk2.out.trans hkp).ext _)

theorem peu_walk {w : World} (a : Option Addr) (cap : Nat) (ps : List (Nat × Nat)) (thr : Int) (hmax : ps.length ≤ maxLen) (hcap : ps.length ≤ cap) (hs : PtsIn w a ps) (hbits : Bits ps) (ht : -9223372036854775808 ≤ thr ∧ thr ≤ 9223372036854775807) :
    Calls Try.prog 4 #[.slice a ps.length cap, .int .i64 thr] w (Ret w (.bool true)) := by
  by_cases c : 2147483647 < ps.length
  · exact peu_no a cap ps hmax hcap thr w hs hbits (.inl c)
  · by_cases d : lineB ps = true ∧ 0 ≤ thr ∧ thr ≤ 1000
    · obtain ⟨d1, d4, d5⟩ := d
      obtain ⟨t, rfl⟩ : ∃ t : Nat, thr = (t : Int) := ⟨thr.toNat, by omega⟩
      exact peu_yes a cap t ps hcap w hs hbits d1 (by omega)
    · refine peu_no a cap ps hmax hcap thr w hs hbits (.inr ⟨by omega, ?_⟩)
      cases c1 : lineB ps
      · exact .inl rfl
      · right
        rw [c1] at d
        simp only [true_and] at d
        omega
end Go.Proofs.Ytglopopdmkgooaa
