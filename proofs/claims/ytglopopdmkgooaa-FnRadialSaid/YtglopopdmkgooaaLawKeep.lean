/-
  laws.FnKeepByAreas, walked: it answers true.
-/
import Derived.Test.YtglopopdmkgooaaSmp
namespace Go.Proofs.Ytglopopdmkgooaa
open PubFl Go.RowKit PubVis

attribute [local go_sem] cell_ext frozen_ext ext_setCell cell_store size_ext_eq lt_p0 lt_p1 lt_p2 lt_p3 lt_p4 lt_p5 lt_p6 lt_p7 lt_p8 lt_p9 lt_p10 lt_p11 lt_p12 lt_p13 lt_p14 lt_p15 lt_p16 lt_p17 lt_p18 lt_p19 lt_p20 lt_p21 lt_p22 lt_p23 lt_p24 lt_p25 lt_p26 lt_p27 lt_p28 lt_p29 lt_p30 lt_p31 lt_p32 lt_q1 lt_q2 lt_q3 lt_q4 lt_q5 lt_q6 lt_q7 lt_q8 lt_q9 lt_q10 lt_q11 lt_q12 lt_q13 lt_q14 lt_q15 lt_q16 lt_q17 lt_q18 lt_q19 lt_q20 lt_q21 lt_q22 lt_q23 lt_q24 lt_q25 lt_q26 lt_q27 lt_q28 lt_q29 lt_q30 lt_q31 lt_q32 run_fop run_store_float
attribute [local go_sem high] cmp_eql cmp_neq cmp_lss cmp_leq cmp_gtr cmp_geq

theorem PartPost.form {w w' : World} {xs : List Nat} {e : Ending} (h : PartPost w xs e w') (hx : 0 < xs.length) : ∃ g c u, e = .returned (.tuple #[.slice (some ⟨g, 0, none⟩) xs.length c, .bool true]) ∧ w' = ext w u ∧ g < w'.heap.size ∧ ∀ j, j < xs.length → w'.cell? ⟨g, j, none⟩ = (idx xs)[j]? := by
  obtain ⟨v, u, he, hu, hown⟩ := h
  obtain ⟨g, c, rfl, _, hg, _⟩ := ownsRow_some hown hx
  exact ⟨g, c, u, he, hu, hg, fun j hj => hown.cellAt j (by omega)⟩
theorem idx_get {xs : List Nat} {j i : Nat} (h : xs[j]? = some i) : (idx xs)[j]? = some (.int .i64 (i : Nat)) := by unfold idx; rw [List.getElem?_map, h]; rfl

set_option maxRecDepth 20000 in
set_option maxHeartbeats 1000000 in
theorem keepLaw_no (a : Option Addr) (cap : Nat) (ps : List (Nat × Nat)) (hmax : ps.length ≤ maxLen) (hcap : ps.length ≤ cap) (keep : Int) (w : World) (hs : PtsIn w a ps) (hbits : Bits ps)
    (hno : 2147483647 < ps.length ∨ ps.length ≤ 2147483647 ∧ (lineB ps = false ∨ keep < 2 ∨ 100 < keep)) :
    Calls Try.prog 3 #[.slice a ps.length cap, .int .i64 keep] w (Ret w (.bool true)) := by
  rcases hno with hbig | ⟨hn, hc⟩
  · have h1 : ((2147483647 : Int) < (ps.length : Int)) = True := eq_true (by omega)
    go_enter Try.func3, Try.ntmps3
    go_wp2_with fail
    go_ret
    exact Ret.mk rfl (by repeat (first | (with_reducible exact Kp.refl _) | (with_reducible assumption) | (with_reducible apply Kp.ext) | (with_reducible apply Kp.alloc) | (with_reducible apply Kp.drew) | (with_reducible apply Kp.drewN) | (with_reducible refine Kp.setCell ?_ (by first | (dsimp only; omega) | (simp; omega) | (simp; done) | (simp [size_ext_eq]; omega)) _)))
  · have h1 : ((2147483647 : Int) < (ps.length : Int)) = False := eq_false (by omega)
    have HL := Lib.hid (fun w' (hk : Kp w w') => isLine_c a cap ps hn hcap w' (hs.kp hk) hbits)
    cases c1 : lineB ps
    · rw [c1] at HL
      clear c1 hc
      go_enter Try.func3, Try.ntmps3
      go_wp2_with (first | (go_at_call 7; (first | (with_reducible refine (Ret.at_ext (HL.out _ (by repeat (first | (with_reducible exact Kp.refl _) | (with_reducible assumption) | (with_reducible apply Kp.ext) | (with_reducible apply Kp.alloc) | (with_reducible apply Kp.drew) | (with_reducible apply Kp.drewN) | (with_reducible refine Kp.setCell ?_ (by first | (dsimp only; omega) | (simp; omega) | (simp; done) | (simp [size_ext_eq]; omega)) _))))).mono ?_) | (with_reducible refine (HL.out _ (by repeat (first | (with_reducible exact Kp.refl _) | (with_reducible assumption) | (with_reducible apply Kp.ext) | (with_reducible apply Kp.alloc) | (with_reducible apply Kp.drew) | (with_reducible apply Kp.drewN) | (with_reducible refine Kp.setCell ?_ (by first | (dsimp only; omega) | (simp; omega) | (simp; done) | (simp [size_ext_eq]; omega)) _)))).mono ?_)); rintro e w' ⟨rfl, u, rfl⟩) | (go_at_call 8; (first | (with_reducible refine (Ret.at_ext (simple_c _)).mono ?_) | (with_reducible refine (simple_c _).mono ?_)); rintro e w' ⟨rfl, u, rfl⟩))
      go_ret
      exact Ret.mk rfl (by repeat (first | (with_reducible exact Kp.refl _) | (with_reducible assumption) | (with_reducible apply Kp.ext) | (with_reducible apply Kp.alloc) | (with_reducible apply Kp.drew) | (with_reducible apply Kp.drewN) | (with_reducible refine Kp.setCell ?_ (by first | (dsimp only; omega) | (simp; omega) | (simp; done) | (simp [size_ext_eq]; omega)) _)))
    · rw [c1] at HL hc
      simp only [Bool.true_eq_false, false_or] at hc
      clear c1
      by_cases d0 : keep < 2
      · have e0 : (keep < 2) = True := eq_true d0
        clear hc d0
        go_enter Try.func3, Try.ntmps3
        go_wp2_with (first | (go_at_call 7; (first | (with_reducible refine (Ret.at_ext (HL.out _ (by repeat (first | (with_reducible exact Kp.refl _) | (with_reducible assumption) | (with_reducible apply Kp.ext) | (with_reducible apply Kp.alloc) | (with_reducible apply Kp.drew) | (with_reducible apply Kp.drewN) | (with_reducible refine Kp.setCell ?_ (by first | (dsimp only; omega) | (simp; omega) | (simp; done) | (simp [size_ext_eq]; omega)) _))))).mono ?_) | (with_reducible refine (HL.out _ (by repeat (first | (with_reducible exact Kp.refl _) | (with_reducible assumption) | (with_reducible apply Kp.ext) | (with_reducible apply Kp.alloc) | (with_reducible apply Kp.drew) | (with_reducible apply Kp.drewN) | (with_reducible refine Kp.setCell ?_ (by first | (dsimp only; omega) | (simp; omega) | (simp; done) | (simp [size_ext_eq]; omega)) _)))).mono ?_)); rintro e w' ⟨rfl, u, rfl⟩) | (go_at_call 8; (first | (with_reducible refine (Ret.at_ext (simple_c _)).mono ?_) | (with_reducible refine (simple_c _).mono ?_)); rintro e w' ⟨rfl, u, rfl⟩))
        go_ret
        exact Ret.mk rfl (by repeat (first | (with_reducible exact Kp.refl _) | (with_reducible assumption) | (with_reducible apply Kp.ext) | (with_reducible apply Kp.alloc) | (with_reducible apply Kp.drew) | (with_reducible apply Kp.drewN) | (with_reducible refine Kp.setCell ?_ (by first | (dsimp only; omega) | (simp; omega) | (simp; done) | (simp [size_ext_eq]; omega)) _)))
      · have e0 : (keep < 2) = False := eq_false d0
        have e1 : (100 < keep) = True := eq_true (by omega)
        clear hc d0
        go_enter Try.func3, Try.ntmps3
        go_wp2_with (first | (go_at_call 7; (first | (with_reducible refine (Ret.at_ext (HL.out _ (by repeat (first | (with_reducible exact Kp.refl _) | (with_reducible assumption) | (with_reducible apply Kp.ext) | (with_reducible apply Kp.alloc) | (with_reducible apply Kp.drew) | (with_reducible apply Kp.drewN) | (with_reducible refine Kp.setCell ?_ (by first | (dsimp only; omega) | (simp; omega) | (simp; done) | (simp [size_ext_eq]; omega)) _))))).mono ?_) | (with_reducible refine (HL.out _ (by repeat (first | (with_reducible exact Kp.refl _) | (with_reducible assumption) | (with_reducible apply Kp.ext) | (with_reducible apply Kp.alloc) | (with_reducible apply Kp.drew) | (with_reducible apply Kp.drewN) | (with_reducible refine Kp.setCell ?_ (by first | (dsimp only; omega) | (simp; omega) | (simp; done) | (simp [size_ext_eq]; omega)) _)))).mono ?_)); rintro e w' ⟨rfl, u, rfl⟩) | (go_at_call 8; (first | (with_reducible refine (Ret.at_ext (simple_c _)).mono ?_) | (with_reducible refine (simple_c _).mono ?_)); rintro e w' ⟨rfl, u, rfl⟩))
        go_ret
        exact Ret.mk rfl (by repeat (first | (with_reducible exact Kp.refl _) | (with_reducible assumption) | (with_reducible apply Kp.ext) | (with_reducible apply Kp.alloc) | (with_reducible apply Kp.drew) | (with_reducible apply Kp.drewN) | (with_reducible refine Kp.setCell ?_ (by first | (dsimp only; omega) | (simp; omega) | (simp; done) | (simp [size_ext_eq]; omega)) _)))

set_option maxRecDepth 20000 in
set_option maxHeartbeats 2000000 in
theorem keepLaw_yes (a : Option Addr) (cap keep : Nat) (ps : List (Nat × Nat)) (hcap : ps.length ≤ cap) (w : World) (hs : PtsIn w a ps) (hbits : Bits ps) (c1 : lineB ps = true) (hk1 : 2 ≤ keep) (hk2 : keep ≤ 100) :
    Calls Try.prog 3 #[.slice a ps.length cap, .int .i64 (keep : Nat)] w (Ret w (.bool true)) := by
  obtain ⟨h2, h40, X, Y, hX⟩ := lineB_i hbits c1
  have h1 : ((2147483647 : Int) < (ps.length : Int)) = False := eq_false (by omega)
  have HL := Lib.hid (fun w' (hk : Kp w w') => isLine_c a cap ps (by omega) hcap w' (hs.kp hk) hbits)
  rw [c1] at HL
  have HK := Lib.hid (fun w' (hk : Kp w w') => keepByAreas_c a cap keep ps (triI X Y) hk1 hX.tri (by omega) h2 w' (hs.kp hk))
  have HP := Lib.hid (fun a' cap' L h0 hl w' (hk : Kp w w') hs' => isPart_c a' a cap' cap ps L (by omega) h2 (fun i j hi hj => hX.eq hi hj) h0 hl w' hs' (hs.kp hk))
  have HX := Lib.hid hX
  have e0 : ((keep : Int) < 2) = False := eq_false (by omega)
  have e1 : ((100 : Int) < (keep : Int)) = False := eq_false (by omega)
  clear c1 hX hs
  go_enter Try.func3, Try.ntmps3
  go_wp2_with (first | (go_at_call 7; (first | (with_reducible refine (Ret.at_ext (HL.out _ (by repeat (first | (with_reducible exact Kp.refl _) | (with_reducible assumption) | (with_reducible apply Kp.ext) | (with_reducible apply Kp.alloc) | (with_reducible apply Kp.drew) | (with_reducible apply Kp.drewN) | (with_reducible refine Kp.setCell ?_ (by first | (dsimp only; omega) | (simp; omega) | (simp; done) | (simp [size_ext_eq]; omega)) _))))).mono ?_) | (with_reducible refine (HL.out _ (by repeat (first | (with_reducible exact Kp.refl _) | (with_reducible assumption) | (with_reducible apply Kp.ext) | (with_reducible apply Kp.alloc) | (with_reducible apply Kp.drew) | (with_reducible apply Kp.drewN) | (with_reducible refine Kp.setCell ?_ (by first | (dsimp only; omega) | (simp; omega) | (simp; done) | (simp [size_ext_eq]; omega)) _)))).mono ?_)); rintro e w' ⟨rfl, u, rfl⟩) | (go_at_call 9; (with_reducible refine (HK.out _ (by repeat (first | (with_reducible exact Kp.refl _) | (with_reducible assumption) | (with_reducible apply Kp.ext) | (with_reducible apply Kp.alloc) | (with_reducible apply Kp.drew) | (with_reducible apply Kp.drewN) | (with_reducible refine Kp.setCell ?_ (by first | (dsimp only; omega) | (simp; omega) | (simp; done) | (simp [size_ext_eq]; omega)) _)))).mono ?_); rintro e w1 h; obtain ⟨out, a1, c1, u1, hP, rfl, hu, hin, _⟩ := h.out; have HOut := Lib.hid (And.intro hP (And.intro hu hin)); clear h hP hu hin))
  obtain ⟨hP, hu, hin⟩ := HOut.out
  have hlen := visKeep_len HX.out.tri h2 hk1 hP
  obtain ⟨L, hres, rfl⟩ := hP
  have hkw : Kp w w1 := by rw [hu]; exact (by repeat (first | (with_reducible exact Kp.refl _) | (with_reducible assumption) | (with_reducible apply Kp.ext) | (with_reducible apply Kp.alloc) | (with_reducible apply Kp.drew) | (with_reducible apply Kp.drewN) | (with_reducible refine Kp.setCell ?_ (by first | (dsimp only; omega) | (simp; omega) | (simp; done) | (simp [size_ext_eq]; omega)) _)))
  rw [List.length_map, kept_length] at hlen
  rw [List.length_map, kept_length]
  have hc2 := cnt_two_le h2 hres.l0 hres.ln
  have hcn := cnt_le L ps.length
  have hkl := kept_length L ps.length
  have hlast := idx_get (kept_last (L := L) (n := ps.length) (by omega) hres.ln)
  have hpp := HP.out a1 c1 L hres.l0 hres.ln w1 hkw hin
  have HP2 := Lib.hid hpp
  have Hk := Lib.hid hkw
  obtain ⟨m, hm⟩ : ∃ m, cnt L ps.length = m := ⟨_, rfl⟩
  rw [hm] at HP2 hlen hc2 hcn hkl hlast ⊢
  have Hl := Lib.hid hlast
  have Hkl := Lib.hid hkl
  have Hlen := Lib.hid hlen
  clear hu hin hpp hkw hm hlast hkl HOut HK HP hlen
  go_wp2_with (go_at_call 10; (with_reducible refine (HP2.out).mono ?_); rintro e w2 hpost; obtain ⟨g, gc, u2, rfl, hu2, hg, hcell⟩ := hpost.form (by rw [Hkl.out]; omega); rw [Hkl.out] at hcell ⊢; have c0 := hcell (m - 1) (by omega); rw [Hl.out] at c0; have HU := Lib.hid hu2; clear hpost hu2 hcell)
  have hk2 : Kp w w2 := by rw [HU.out]; exact Hk.out.ext u2
  have Hk2 := Lib.hid hk2
  have i1 : ((ps.length - 1 : Nat) : Int) = (ps.length : Int) - 1 := by omega
  rw [i1] at c0
  have j1 : ((m : Int) - 1).toNat = m - 1 := by omega
  have j2 : (0 : Int) ≤ (m : Int) - 1 := by omega
  clear i1 hk2
  go_wp2_with (go_at_call 8; (first | (with_reducible refine (Ret.at_ext (simple_c _)).mono ?_) | (with_reducible refine (simple_c _).mono ?_)); rintro e w' ⟨rfl, u, rfl⟩)
  all_goals
    go_ret
    refine Ret.mk ?_ (Hk2.out.ext _)
    have hl := Hlen.out
    simp only [go_sem, Ending.returned.injEq, Value.bool.injEq]
    simp
    omega

theorem keepByAreas_walk {w : World} (a : Option Addr) (cap : Nat) (ps : List (Nat × Nat)) (keep : Int) (hmax : ps.length ≤ maxLen) (hcap : ps.length ≤ cap) (hs : PtsIn w a ps) (hbits : Bits ps) (hk : -9223372036854775808 ≤ keep ∧ keep ≤ 9223372036854775807) :
    Calls Try.prog 3 #[.slice a ps.length cap, .int .i64 keep] w (Ret w (.bool true)) := by
  by_cases c : 2147483647 < ps.length
  · exact keepLaw_no a cap ps hmax hcap keep w hs hbits (.inl c)
  · by_cases d : lineB ps = true ∧ 2 ≤ keep ∧ keep ≤ 100
    · obtain ⟨d1, d2, d3⟩ := d
      obtain ⟨k, rfl⟩ : ∃ k : Nat, keep = (k : Int) := ⟨keep.toNat, by omega⟩
      exact keepLaw_yes a cap k ps hcap w hs hbits d1 (by omega) (by omega)
    · refine keepLaw_no a cap ps hmax hcap keep w hs hbits (.inr ⟨by omega, ?_⟩)
      cases c1 : lineB ps
      · exact .inl rfl
      · right
        rw [c1] at d
        simp only [true_and] at d
        omega
end Go.Proofs.Ytglopopdmkgooaa
