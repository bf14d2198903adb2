/-
  laws.FnByAreas, walked: it answers true.
-/
import Derived.Test.YtglopopdmkgooaaLawKeep
namespace Go.Proofs.Ytglopopdmkgooaa
open PubFl Go.RowKit PubVis

attribute [local go_sem] cell_ext frozen_ext ext_setCell cell_store size_ext_eq lt_p0 lt_p1 lt_p2 lt_p3 lt_p4 lt_p5 lt_p6 lt_p7 lt_p8 lt_p9 lt_p10 lt_p11 lt_p12 lt_p13 lt_p14 lt_p15 lt_p16 lt_p17 lt_p18 lt_p19 lt_p20 lt_p21 lt_p22 lt_p23 lt_p24 lt_p25 lt_p26 lt_p27 lt_p28 lt_p29 lt_p30 lt_p31 lt_p32 lt_q1 lt_q2 lt_q3 lt_q4 lt_q5 lt_q6 lt_q7 lt_q8 lt_q9 lt_q10 lt_q11 lt_q12 lt_q13 lt_q14 lt_q15 lt_q16 lt_q17 lt_q18 lt_q19 lt_q20 lt_q21 lt_q22 lt_q23 lt_q24 lt_q25 lt_q26 lt_q27 lt_q28 lt_q29 lt_q30 lt_q31 lt_q32 run_fop run_store_float
attribute [local go_sem high] cmp_eql cmp_neq cmp_lss cmp_leq cmp_gtr cmp_geq

theorem two_isV : IsV 4611686018427387904 ((2 : Int) : Rat) := by
  rw [show (4611686018427387904 : Nat) = fl 2 by kernel_rfl]; exact fl_isV (by decide)

set_option maxRecDepth 20000 in
set_option maxHeartbeats 1000000 in
theorem byLaw_no (a : Option Addr) (cap : Nat) (ps : List (Nat × Nat)) (hmax : ps.length ≤ maxLen) (hcap : ps.length ≤ cap) (thr keep : Int) (w : World) (hs : PtsIn w a ps) (hbits : Bits ps)
    (hno : 2147483647 < ps.length ∨ ps.length ≤ 2147483647 ∧ (lineB ps = false ∨ keep < 2 ∨ 100 < keep ∨ thr < 0 ∨ 1000000 < thr)) :
    Calls Try.prog 5 #[.slice a ps.length cap, .int .i64 thr, .int .i64 keep] w (Ret w (.bool true)) := by
  rcases hno with hbig | ⟨hn, hc⟩
  · have h1 : ((2147483647 : Int) < (ps.length : Int)) = True := eq_true (by omega)
    go_enter Try.func5, Try.ntmps5
    go_wp2_with fail
    go_ret
    exact Ret.mk rfl (by repeat (first | (with_reducible exact Kp.refl _) | (with_reducible assumption) | (with_reducible apply Kp.ext) | (with_reducible apply Kp.alloc) | (with_reducible apply Kp.drew) | (with_reducible apply Kp.drewN) | (with_reducible refine Kp.setCell ?_ (by first | (dsimp only; omega) | (simp; omega) | (simp; done) | (simp [size_ext_eq]; omega)) _)))
  · have h1 : ((2147483647 : Int) < (ps.length : Int)) = False := eq_false (by omega)
    have HL := Lib.hid (fun w' (hk : Kp w w') => isLine_c a cap ps hn hcap w' (hs.kp hk) hbits)
    cases c1 : lineB ps
    · rw [c1] at HL
      clear c1 hc
      go_enter Try.func5, Try.ntmps5
      go_wp2_with (first | (go_at_call 7; (first | (with_reducible refine (Ret.at_ext (HL.out _ (by repeat (first | (with_reducible exact Kp.refl _) | (with_reducible assumption) | (with_reducible apply Kp.ext) | (with_reducible apply Kp.alloc) | (with_reducible apply Kp.drew) | (with_reducible apply Kp.drewN) | (with_reducible refine Kp.setCell ?_ (by first | (dsimp only; omega) | (simp; omega) | (simp; done) | (simp [size_ext_eq]; omega)) _))))).mono ?_) | (with_reducible refine (HL.out _ (by repeat (first | (with_reducible exact Kp.refl _) | (with_reducible assumption) | (with_reducible apply Kp.ext) | (with_reducible apply Kp.alloc) | (with_reducible apply Kp.drew) | (with_reducible apply Kp.drewN) | (with_reducible refine Kp.setCell ?_ (by first | (dsimp only; omega) | (simp; omega) | (simp; done) | (simp [size_ext_eq]; omega)) _)))).mono ?_)); rintro e w' ⟨rfl, u, rfl⟩) | (go_at_call 8; (first | (with_reducible refine (Ret.at_ext (simple_c _)).mono ?_) | (with_reducible refine (simple_c _).mono ?_)); rintro e w' ⟨rfl, u, rfl⟩))
      go_ret
      exact Ret.mk rfl (by repeat (first | (with_reducible exact Kp.refl _) | (with_reducible assumption) | (with_reducible apply Kp.ext) | (with_reducible apply Kp.alloc) | (with_reducible apply Kp.drew) | (with_reducible apply Kp.drewN) | (with_reducible refine Kp.setCell ?_ (by first | (dsimp only; omega) | (simp; omega) | (simp; done) | (simp [size_ext_eq]; omega)) _)))
    · rw [c1] at HL hc
      simp only [Bool.true_eq_false, false_or] at hc
      clear c1
      by_cases d0 : keep < 2
      · have e0 : (keep < 2) = True := eq_true d0
        clear hc d0
        go_enter Try.func5, Try.ntmps5
        go_wp2_with (first | (go_at_call 7; (first | (with_reducible refine (Ret.at_ext (HL.out _ (by repeat (first | (with_reducible exact Kp.refl _) | (with_reducible assumption) | (with_reducible apply Kp.ext) | (with_reducible apply Kp.alloc) | (with_reducible apply Kp.drew) | (with_reducible apply Kp.drewN) | (with_reducible refine Kp.setCell ?_ (by first | (dsimp only; omega) | (simp; omega) | (simp; done) | (simp [size_ext_eq]; omega)) _))))).mono ?_) | (with_reducible refine (HL.out _ (by repeat (first | (with_reducible exact Kp.refl _) | (with_reducible assumption) | (with_reducible apply Kp.ext) | (with_reducible apply Kp.alloc) | (with_reducible apply Kp.drew) | (with_reducible apply Kp.drewN) | (with_reducible refine Kp.setCell ?_ (by first | (dsimp only; omega) | (simp; omega) | (simp; done) | (simp [size_ext_eq]; omega)) _)))).mono ?_)); rintro e w' ⟨rfl, u, rfl⟩) | (go_at_call 8; (first | (with_reducible refine (Ret.at_ext (simple_c _)).mono ?_) | (with_reducible refine (simple_c _).mono ?_)); rintro e w' ⟨rfl, u, rfl⟩))
        go_ret
        exact Ret.mk rfl (by repeat (first | (with_reducible exact Kp.refl _) | (with_reducible assumption) | (with_reducible apply Kp.ext) | (with_reducible apply Kp.alloc) | (with_reducible apply Kp.drew) | (with_reducible apply Kp.drewN) | (with_reducible refine Kp.setCell ?_ (by first | (dsimp only; omega) | (simp; omega) | (simp; done) | (simp [size_ext_eq]; omega)) _)))
      · have e0 : (keep < 2) = False := eq_false d0
        by_cases d1 : 100 < keep
        · have e1 : (100 < keep) = True := eq_true d1
          clear hc d0 d1
          go_enter Try.func5, Try.ntmps5
          go_wp2_with (first | (go_at_call 7; (first | (with_reducible refine (Ret.at_ext (HL.out _ (by repeat (first | (with_reducible exact Kp.refl _) | (with_reducible assumption) | (with_reducible apply Kp.ext) | (with_reducible apply Kp.alloc) | (with_reducible apply Kp.drew) | (with_reducible apply Kp.drewN) | (with_reducible refine Kp.setCell ?_ (by first | (dsimp only; omega) | (simp; omega) | (simp; done) | (simp [size_ext_eq]; omega)) _))))).mono ?_) | (with_reducible refine (HL.out _ (by repeat (first | (with_reducible exact Kp.refl _) | (with_reducible assumption) | (with_reducible apply Kp.ext) | (with_reducible apply Kp.alloc) | (with_reducible apply Kp.drew) | (with_reducible apply Kp.drewN) | (with_reducible refine Kp.setCell ?_ (by first | (dsimp only; omega) | (simp; omega) | (simp; done) | (simp [size_ext_eq]; omega)) _)))).mono ?_)); rintro e w' ⟨rfl, u, rfl⟩) | (go_at_call 8; (first | (with_reducible refine (Ret.at_ext (simple_c _)).mono ?_) | (with_reducible refine (simple_c _).mono ?_)); rintro e w' ⟨rfl, u, rfl⟩))
          go_ret
          exact Ret.mk rfl (by repeat (first | (with_reducible exact Kp.refl _) | (with_reducible assumption) | (with_reducible apply Kp.ext) | (with_reducible apply Kp.alloc) | (with_reducible apply Kp.drew) | (with_reducible apply Kp.drewN) | (with_reducible refine Kp.setCell ?_ (by first | (dsimp only; omega) | (simp; omega) | (simp; done) | (simp [size_ext_eq]; omega)) _)))
        · have e1 : (100 < keep) = False := eq_false d1
          by_cases d2 : thr < 0
          · have e2 : (thr < 0) = True := eq_true d2
            clear hc d0 d1 d2
            go_enter Try.func5, Try.ntmps5
            go_wp2_with (first | (go_at_call 7; (first | (with_reducible refine (Ret.at_ext (HL.out _ (by repeat (first | (with_reducible exact Kp.refl _) | (with_reducible assumption) | (with_reducible apply Kp.ext) | (with_reducible apply Kp.alloc) | (with_reducible apply Kp.drew) | (with_reducible apply Kp.drewN) | (with_reducible refine Kp.setCell ?_ (by first | (dsimp only; omega) | (simp; omega) | (simp; done) | (simp [size_ext_eq]; omega)) _))))).mono ?_) | (with_reducible refine (HL.out _ (by repeat (first | (with_reducible exact Kp.refl _) | (with_reducible assumption) | (with_reducible apply Kp.ext) | (with_reducible apply Kp.alloc) | (with_reducible apply Kp.drew) | (with_reducible apply Kp.drewN) | (with_reducible refine Kp.setCell ?_ (by first | (dsimp only; omega) | (simp; omega) | (simp; done) | (simp [size_ext_eq]; omega)) _)))).mono ?_)); rintro e w' ⟨rfl, u, rfl⟩) | (go_at_call 8; (first | (with_reducible refine (Ret.at_ext (simple_c _)).mono ?_) | (with_reducible refine (simple_c _).mono ?_)); rintro e w' ⟨rfl, u, rfl⟩))
            go_ret
            exact Ret.mk rfl (by repeat (first | (with_reducible exact Kp.refl _) | (with_reducible assumption) | (with_reducible apply Kp.ext) | (with_reducible apply Kp.alloc) | (with_reducible apply Kp.drew) | (with_reducible apply Kp.drewN) | (with_reducible refine Kp.setCell ?_ (by first | (dsimp only; omega) | (simp; omega) | (simp; done) | (simp [size_ext_eq]; omega)) _)))
          · have e2 : (thr < 0) = False := eq_false d2
            have e3 : (1000000 < thr) = True := eq_true (by omega)
            clear hc d0 d1 d2
            go_enter Try.func5, Try.ntmps5
            go_wp2_with (first | (go_at_call 7; (first | (with_reducible refine (Ret.at_ext (HL.out _ (by repeat (first | (with_reducible exact Kp.refl _) | (with_reducible assumption) | (with_reducible apply Kp.ext) | (with_reducible apply Kp.alloc) | (with_reducible apply Kp.drew) | (with_reducible apply Kp.drewN) | (with_reducible refine Kp.setCell ?_ (by first | (dsimp only; omega) | (simp; omega) | (simp; done) | (simp [size_ext_eq]; omega)) _))))).mono ?_) | (with_reducible refine (HL.out _ (by repeat (first | (with_reducible exact Kp.refl _) | (with_reducible assumption) | (with_reducible apply Kp.ext) | (with_reducible apply Kp.alloc) | (with_reducible apply Kp.drew) | (with_reducible apply Kp.drewN) | (with_reducible refine Kp.setCell ?_ (by first | (dsimp only; omega) | (simp; omega) | (simp; done) | (simp [size_ext_eq]; omega)) _)))).mono ?_)); rintro e w' ⟨rfl, u, rfl⟩) | (go_at_call 8; (first | (with_reducible refine (Ret.at_ext (simple_c _)).mono ?_) | (with_reducible refine (simple_c _).mono ?_)); rintro e w' ⟨rfl, u, rfl⟩))
            go_ret
            exact Ret.mk rfl (by repeat (first | (with_reducible exact Kp.refl _) | (with_reducible assumption) | (with_reducible apply Kp.ext) | (with_reducible apply Kp.alloc) | (with_reducible apply Kp.drew) | (with_reducible apply Kp.drewN) | (with_reducible refine Kp.setCell ?_ (by first | (dsimp only; omega) | (simp; omega) | (simp; done) | (simp [size_ext_eq]; omega)) _)))

set_option maxRecDepth 100000 in
set_option maxHeartbeats 4000000 in
theorem byLaw_yes (a : Option Addr) (cap keep thr : Nat) (ps : List (Nat × Nat)) (hcap : ps.length ≤ cap) (w : World) (hs : PtsIn w a ps) (hbits : Bits ps) (c1 : lineB ps = true) (hk1 : 2 ≤ keep) (hk2 : keep ≤ 100) (ht : thr ≤ 1000000) :
    Calls Try.prog 5 #[.slice a ps.length cap, .int .i64 (thr : Nat), .int .i64 (keep : Nat)] w (Ret w (.bool true)) := by
  obtain ⟨h2, h40, X, Y, hX⟩ := lineB_i hbits c1
  have vt := fl_isV (n := (thr : Int)) (by omega)
  obtain ⟨ot, vm⟩ := mul_int vt two_isV (by omega)
  obtain ⟨ot2, vm2⟩ := mul_int two_isV vt (by omega)
  have h1 : ((2147483647 : Int) < (ps.length : Int)) = False := eq_false (by omega)
  have HL := Lib.hid (fun w' (hk : Kp w w') => isLine_c a cap ps (by omega) hcap w' (hs.kp hk) hbits)
  rw [c1] at HL
  have HK := Lib.hid (fun w' (hk : Kp w w') => byAreas_c a cap (fl thr) keep ps (triI X Y) ((thr : Int) * 2) hk1 hX.tri ot (.inr ⟨vm, by omega, by unfold infK; omega⟩) (by omega) h2 w' (hs.kp hk))
  have HP := Lib.hid (fun a' cap' L h0 hl w' (hk : Kp w w') hs' => isPart_c a' a cap' cap ps L (by omega) h2 (fun i j hi hj => hX.eq hi hj) h0 hl w' hs' (hs.kp hk))
  have HX := Lib.hid hX
  have HV := Lib.hid vm2
  have hfl : ∀ n : Int, floatOfInt .f64 n = fl n := fun _ => rfl
  have e0 : ((keep : Int) < 2) = False := eq_false (by omega)
  have e1 : ((100 : Int) < (keep : Int)) = False := eq_false (by omega)
  have e2 : ((thr : Int) < 0) = False := eq_false (by omega)
  have e3 : ((1000000 : Int) < (thr : Int)) = False := eq_false (by omega)
  clear c1 hX hs vt vm vm2 ot
  go_enter Try.func5, Try.ntmps5
  go_wp2_with (first | (go_at_call 7; (first | (with_reducible refine (Ret.at_ext (HL.out _ (by repeat (first | (with_reducible exact Kp.refl _) | (with_reducible assumption) | (with_reducible apply Kp.ext) | (with_reducible apply Kp.alloc) | (with_reducible apply Kp.drew) | (with_reducible apply Kp.drewN) | (with_reducible refine Kp.setCell ?_ (by first | (dsimp only; omega) | (simp; omega) | (simp; done) | (simp [size_ext_eq]; omega)) _))))).mono ?_) | (with_reducible refine (HL.out _ (by repeat (first | (with_reducible exact Kp.refl _) | (with_reducible assumption) | (with_reducible apply Kp.ext) | (with_reducible apply Kp.alloc) | (with_reducible apply Kp.drew) | (with_reducible apply Kp.drewN) | (with_reducible refine Kp.setCell ?_ (by first | (dsimp only; omega) | (simp; omega) | (simp; done) | (simp [size_ext_eq]; omega)) _)))).mono ?_)); rintro e w' ⟨rfl, u, rfl⟩) | (go_at_call 13; (with_reducible refine (HK.out _ (by repeat (first | (with_reducible exact Kp.refl _) | (with_reducible assumption) | (with_reducible apply Kp.ext) | (with_reducible apply Kp.alloc) | (with_reducible apply Kp.drew) | (with_reducible apply Kp.drewN) | (with_reducible refine Kp.setCell ?_ (by first | (dsimp only; omega) | (simp; omega) | (simp; done) | (simp [size_ext_eq]; omega)) _)))).mono ?_); rintro e w1 h; obtain ⟨out, a1, c1, u1, hP, rfl, hu, hin, _⟩ := h.out; have HOut := Lib.hid (And.intro hP (And.intro hu hin)); clear h hP hu hin))
  obtain ⟨hP, hu, hin⟩ := HOut.out
  obtain ⟨L, hres, rfl⟩ := hP
  have hkw : Kp w w1 := by rw [hu]; exact (by repeat (first | (with_reducible exact Kp.refl _) | (with_reducible assumption) | (with_reducible apply Kp.ext) | (with_reducible apply Kp.alloc) | (with_reducible apply Kp.drew) | (with_reducible apply Kp.drewN) | (with_reducible refine Kp.setCell ?_ (by first | (dsimp only; omega) | (simp; omega) | (simp; done) | (simp [size_ext_eq]; omega)) _)))
  rw [List.length_map, kept_length]
  have hc2 := cnt_two_le h2 hres.l0 hres.ln
  have hcn := cnt_le L ps.length
  have hkl := kept_length L ps.length
  have hge := hres.ge
  have hlast := idx_get (kept_last (L := L) (n := ps.length) (by omega) hres.ln)
  have hpp := HP.out a1 c1 L hres.l0 hres.ln w1 hkw hin
  have HP2 := Lib.hid hpp
  have Hk := Lib.hid hkw
  have Hin := Lib.hid hin
  have Hres := Lib.hid hres
  obtain ⟨m, hm⟩ : ∃ m, cnt L ps.length = m := ⟨_, rfl⟩
  rw [hm] at HP2 hc2 hcn hkl hlast hge ⊢
  have Hm := Lib.hid hm
  have Hl := Lib.hid hlast
  have Hkl := Lib.hid hkl
  have Hge := Lib.hid hge
  clear hu hin hpp hkw hm hlast hkl HOut HK HP hge hres
  have hsplit : ((ps.length < keep) = False ∧ (keep ≤ m) = True ∧ (m < keep) = False) ∨ ((ps.length < keep) = True ∧ (ps.length ≤ m) = True ∧ (m < ps.length) = False) := by
    have hg := Hge.out
    by_cases c : keep ≤ ps.length
    · exact .inl ⟨eq_false (by omega), eq_true (by omega), eq_false (by omega)⟩
    · exact .inr ⟨eq_true (by omega), eq_true (by omega), eq_false (by omega)⟩
  rcases hsplit with ⟨e4, e5, e6⟩ | ⟨e4, e5, e6⟩
  all_goals
    go_upto_if 67 with (go_at_call 10; (with_reducible refine (HP2.out).mono ?_); rintro e w2 hpost; obtain ⟨g, gc, u2, rfl, hu2, hg, hcell⟩ := hpost.form (by rw [Hkl.out]; omega); rw [Hkl.out] at hcell ⊢; have c0 := hcell (m - 1) (by omega); rw [Hl.out] at c0; have HU := Lib.hid hu2; clear hpost hu2 hcell; have i1 : ((ps.length - 1 : Nat) : Int) = (ps.length : Int) - 1 := (by omega); rw [i1] at c0; clear i1; have j1 : ((m : Int) - 1).toNat = m - 1 := (by omega); have j2 : (0 : Int) ≤ (m : Int) - 1 := (by omega))
    have hk2' : Kp w w2 := by rw [HU.out]; exact Hk.out.ext u2
    have Hin2 := Lib.hid (show PtsIn w2 a1 ((kept L ps.length).map (ptAt ps)) by rw [HU.out]; exact Hin.out.kp ((Kp.refl _).ext u2))
    have Hk2 := Lib.hid hk2'
    clear hk2' Hin HU c0 j1 j2 hg
    go_wp2_with fail
    go_loopw [10] (fun s10 wr => ∃ i : Nat, 2 ≤ i ∧ i ≤ m ∧ s10 = .int .i64 (i : Nat) ∧ Kp w2 wr) (fun s10 _ => m - (intOf s10).toNat)
    case atStart => exact ⟨2, by omega, hc2, rfl, (by repeat (first | (with_reducible exact Kp.refl _) | (with_reducible assumption) | (with_reducible apply Kp.ext) | (with_reducible apply Kp.alloc) | (with_reducible apply Kp.drew) | (with_reducible apply Kp.drewN) | (with_reducible refine Kp.setCell ?_ (by first | (dsimp only; omega) | (simp; omega) | (simp; done) | (simp [size_ext_eq]; omega)) _)))⟩
    case round =>
      obtain ⟨i, hi2, him, rfl, hkp⟩ := hrel
      by_cases hlt : i < m ∧ keep < m
      · obtain ⟨hl1, hl2⟩ := hlt
        have hkl := Hkl.out
        obtain ⟨x, hx⟩ : ∃ x, (kept L ps.length)[i - 2]? = some x := ⟨_, List.getElem?_eq_getElem (by omega)⟩
        obtain ⟨y, hy⟩ : ∃ y, (kept L ps.length)[i - 1]? = some y := ⟨_, List.getElem?_eq_getElem (by omega)⟩
        obtain ⟨z, hz⟩ : ∃ z, (kept L ps.length)[i]? = some z := ⟨_, List.getElem?_eq_getElem (by omega)⟩
        obtain ⟨a1', a2', a3', a4', a5'⟩ := kept_step (j := i - 2) hx (by rw [show i - 2 + 1 = i - 1 by omega]; exact hy)
        obtain ⟨b1', b2', b3', b4', b5'⟩ := kept_step (j := i - 1) hy (by rw [show i - 1 + 1 = i by omega]; exact hz)
        have htri : (thr : Int) * 2 < triI X Y x y z := by
          rcases Hres.out.fin with h | h
          · have := Hm.out; omega
          · exact h x y z a3' b3' b4' a1' b1' b2' a5' b5'
        obtain ⟨bo, off, hbo, hb1, hp1⟩ := (Hin2.out.kp hkp).cells (by rw [List.length_map]; omega)
        have get : ∀ (j v : Nat) (hv : (kept L ps.length)[j]? = some v), wr.cell? ⟨bo, off + j * 2, none⟩ = some (.float .f64 (ptAt ps v).1) ∧ wr.cell? ⟨bo, off + j * 2 + 1, none⟩ = some (.float .f64 (ptAt ps v).2) := fun j v hv => by
          obtain ⟨hj, he⟩ := List.getElem?_eq_some_iff.1 hv
          have h := hp1 j (by rw [List.length_map]; exact hj)
          rw [List.getElem_map, he] at h
          exact h
        obtain ⟨x0, x1⟩ := get _ _ hx
        obtain ⟨y0, y1⟩ := get _ _ hy
        obtain ⟨z0, z1⟩ := get _ _ hz
        have hxn : x < ps.length := by omega
        have hyn : y < ps.length := by omega
        obtain ⟨t1, t2, t3, t4⟩ := HX.out.tri.t x y z hxn hyn b2'
        have px : ptAt ps x = ps[x]'hxn := getD_in _ _ hxn
        have py : ptAt ps y = ps[y]'hyn := getD_in _ _ hyn
        have pz : ptAt ps z = ps[z]'b2' := getD_in _ _ b2'
        rw [← px, ← py, ← pz] at t1 t2
        have cmp := ltF_int t2 HV.out
        rw [decide_eq_false (by omega)] at cmp
        unfold triF at cmp
        unfold TriOk at t1
        obtain ⟨⟨qx, qx'⟩, hq1⟩ : ∃ p, ptAt ps x = p := ⟨_, rfl⟩
        obtain ⟨⟨qy, qy'⟩, hq2⟩ : ∃ p, ptAt ps y = p := ⟨_, rfl⟩
        obtain ⟨⟨qz, qz'⟩, hq3⟩ : ∃ p, ptAt ps z = p := ⟨_, rfl⟩
        simp only [hq1, hq2, hq3] at x0 x1 y0 y1 z0 z1 t1 cmp
        subst hbo
        have w2' : IntKind.i64.wrap ((i : Int) - 2) = (i : Int) - 2 := wrap_in2 _ (by omega) (by omega)
        have w1' : IntKind.i64.wrap ((i : Int) - 1) = (i : Int) - 1 := wrap_in2 _ (by omega) (by omega)
        have n2 : ((i : Int) - 2).toNat = i - 2 := by omega
        have n1 : ((i : Int) - 1).toNat = i - 1 := by omega
        have l1 : (0 : Int) ≤ (i : Int) - 2 := by omega
        have l2 : (i : Int) - 2 < (m : Int) := by omega
        have l3 : (0 : Int) ≤ (i : Int) - 1 := by omega
        have l4 : (i : Int) - 1 < (m : Int) := by omega
        have l5 : (i : Int) < (m : Int) := by omega
        clear hx hy hz a1' a2' a3' a4' a5' b1' b2' b3' b4' b5' htri get t2 t3 t4 px py pz hq1 hq2 hq3 hkl hp1 hxn hyn
        go_wp2_with fail
        first | (with_reducible refine wp_region_ext_lit2 ?_ ?_ ?_) | refine wp_region_ext_lit ?_ ?_ ?_
        kernel_rfl
        kernel_rfl
        repeat (go_big_quiet_step (first | (go_at_call 15; with_reducible exact Ret.quiet (cross_c _ _ _ _ _ _ t1 _)) | (go_at_call 14; with_reducible exact Ret.quiet (abs_c _ _))))
        refine wpQuiet_nil ?_
        rintro _ ⟨u, rfl⟩
        go_wp2_with fail
        go_roundw
        case rel => exact ⟨i + 1, by omega, by omega, by go_num, hkp.ext u⟩
        case measure => simp [intOf]; omega
      · by_cases hl1 : i < m
        · have hl2 : (keep < m) = False := eq_false (by omega)
          clear hlt
          go_wp2_with (go_at_call 8; (first | (with_reducible refine (Ret.at_ext (simple_c _)).mono ?_) | (with_reducible refine (simple_c _).mono ?_)); rintro e w' ⟨rfl, u, rfl⟩)
          go_ret
          exact Ret.mk rfl ((Hk2.out.trans hkp).ext _)
        · clear hlt
          go_wp2_with (go_at_call 8; (first | (with_reducible refine (Ret.at_ext (simple_c _)).mono ?_) | (with_reducible refine (simple_c _).mono ?_)); rintro e w' ⟨rfl, u, rfl⟩)
          go_ret
          exact Ret.mk rfl ((Hk2.out.trans hkp).ext _)

theorem byAreas_walk {w : World} (a : Option Addr) (cap : Nat) (ps : List (Nat × Nat)) (thr keep : Int) (hmax : ps.length ≤ maxLen) (hcap : ps.length ≤ cap) (hs : PtsIn w a ps) (hbits : Bits ps) (ht : -9223372036854775808 ≤ thr ∧ thr ≤ 9223372036854775807) (hk : -9223372036854775808 ≤ keep ∧ keep ≤ 9223372036854775807) :
    Calls Try.prog 5 #[.slice a ps.length cap, .int .i64 thr, .int .i64 keep] w (Ret w (.bool true)) := by
  by_cases c : 2147483647 < ps.length
  · exact byLaw_no a cap ps hmax hcap thr keep w hs hbits (.inl c)
  · by_cases d : lineB ps = true ∧ 2 ≤ keep ∧ keep ≤ 100 ∧ 0 ≤ thr ∧ thr ≤ 1000000
    · obtain ⟨d1, d2, d3, d4, d5⟩ := d
      obtain ⟨k, rfl⟩ : ∃ k : Nat, keep = (k : Int) := ⟨keep.toNat, by omega⟩
      obtain ⟨t, rfl⟩ : ∃ t : Nat, thr = (t : Int) := ⟨thr.toNat, by omega⟩
      exact byLaw_yes a cap k t ps hcap w hs hbits d1 (by omega) (by omega) (by omega)
    · refine byLaw_no a cap ps hmax hcap thr keep w hs hbits (.inr ⟨by omega, ?_⟩)
      cases c1 : lineB ps
      · exact .inl rfl
      · right
        rw [c1] at d
        simp only [true_and] at d
        omega
end Go.Proofs.Ytglopopdmkgooaa
