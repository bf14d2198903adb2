/-
  multiPolygonCentroidArea, walked.
-/
import Derived.Test.YtohidpmkoehmcaaGreatDoorPca
set_option linter.all false
namespace Go.Proofs.YtohidpmkoehmcaaGreatDoor
open PubFl Go.RowKit

attribute [local go_sem] cell_ext frozen_ext ext_setCell cell_store size_ext_eq lt_p0 lt_p1 lt_p2 lt_p3 lt_p4 lt_p5 lt_p6 lt_p7 lt_p8 lt_p9 lt_p10 lt_p11 lt_p12 lt_p13 lt_p14 lt_p15 lt_p16 lt_p17 lt_p18 lt_p19 lt_p20 lt_p21 lt_p22 lt_p23 lt_p24 lt_p25 lt_p26 lt_p27 lt_p28 lt_p29 lt_p30 lt_p31 lt_p32 lt_q1 lt_q2 lt_q3 lt_q4 lt_q5 lt_q6 lt_q7 lt_q8 lt_q9 lt_q10 lt_q11 lt_q12 lt_q13 lt_q14 lt_q15 lt_q16 lt_q17 lt_q18 lt_q19 lt_q20 lt_q21 lt_q22 lt_q23 lt_q24 lt_q25 lt_q26 lt_q27 lt_q28 lt_q29 lt_q30 lt_q31 lt_q32 run_fop run_store_float
attribute [local go_sem high] cmp_eql cmp_neq cmp_lss cmp_leq cmp_gtr cmp_geq

/-- sums of the areas -/
def areasTo (A : Nat → Int) : Nat → Int
  | 0 => 0
  | k + 1 => areasTo A k + A k
theorem areasTo_bd (A : Nat → Int) (N : Nat) (h : ∀ i, i < N → 0 ≤ A i ∧ A i ≤ 8000000000) : ∀ k, k ≤ N → 0 ≤ areasTo A k ∧ areasTo A k ≤ 8000000000 * k
  | 0, _ => ⟨by show (0 : Int) ≤ 0; omega, by show (0 : Int) ≤ 8000000000 * ((0 : Nat) : Int); omega⟩
  | k + 1, hk => by
    have := areasTo_bd A N h k (by omega)
    have := h k (by omega)
    show 0 ≤ areasTo A k + _ ∧ areasTo A k + _ ≤ _
    omega
/-- several polygons: the area half of this number -/
def ArRet (w : World) (A : Int) (e : Ending) (w' : World) : Prop := ∃ cx cy a : Nat, e = .returned (.tuple #[.agg #[.float .f64 cx, .float .f64 cy], .float .f64 a]) ∧ IsV a (half A) ∧ ∃ u, w' = ext w u
/-- a middle and its weight, summed -/
theorem sum_step2 {c h a n : Nat} (hc : Bd c n) (hh : Bd h 320) (ha : Bd a 40) (h1 : 361 ≤ n) (hn : n ≤ 900) : FOk .mul h a ∧ FOk .add c (fop .mul h a) ∧ Bd (fop .add c (fop .mul h a)) (n + 2) := by
  obtain ⟨o1, v1⟩ := bd_mul hh ha (by omega)
  obtain ⟨o2, v2⟩ := bd_add hc (v1.mono h1) (by omega)
  exact ⟨o1, o2, v2⟩

set_option maxRecDepth 100000 in
set_option maxHeartbeats 4000000 in
theorem mpa_c (G cap N : Nat) (h6 : N ≤ 6) (w : World) (hG : G < w.heap.size) (A : Nat → Int) (hA : ∀ i, i < N → 0 ≤ A i ∧ A i ≤ 8000000000)
    (h : ∀ i, i < N → ∃ a n c, w.cell? ⟨G, i, none⟩ = some (.slice a n c) ∧ ∀ w', Kp w w' → Calls Tryz.prog 42 #[.slice a n c] w' (PolRet w' (A i))) :
    Calls Tryz.prog 43 #[.slice (some ⟨G, 0, none⟩) N cap] w (ArRet w (areasTo A N)) := by
  have Hh := Lib.hid h
  have HA := Lib.hid hA
  clear h hA
  go_enter Tryz.func43, Tryz.ntmps43
  go_wp2_with fail
  go_loopw [5, 13] (fun s5 s13 wr => ∃ (k a px py : Nat), k ≤ N ∧ s5 = .float .f64 a ∧ s13 = .int .i64 k ∧ IsV a (half (areasTo A k)) ∧ Bd px (370 + 2 * k) ∧ Bd py (370 + 2 * k) ∧ Kp w wr ∧ NewPt w wr w.heap.size 0 0 ∧ NewPt w wr (w.heap.size + 1) px py) (fun _ s13 _ => N - (intOf s13).toNat)
  case atStart => exact ⟨0, 0, 0, 0, by omega, rfl, rfl, half_zero, Bd.int (a := 0) zero_isV (by exact Nat.zero_le _), Bd.int (a := 0) zero_isV (by exact Nat.zero_le _), (by repeat (first | (with_reducible exact Kp.refl _) | (with_reducible assumption) | (with_reducible apply Kp.ext) | (with_reducible apply Kp.alloc) | (with_reducible apply Kp.drew) | (with_reducible apply Kp.drewN) | (with_reducible refine Kp.setCell ?_ (by first | (dsimp only; omega) | (simp; omega) | (simp; done) | (simp [size_ext_eq]; omega)) _))), (by repeat (first | assumption | ((with_reducible refine NewPt.at ?_ _ _ _ ?_) <;> (first | (simp; done) | (simp; omega) | omega | (simp [size_ext_eq]; done) | (simp [size_ext_eq]; omega))) | (with_reducible apply NewPt.alloc) | (with_reducible apply NewPt.drew) | (with_reducible apply NewPt.drewN) | (with_reducible apply NewPt.ext) | (with_reducible exact NewPt.store (by assumption) _ _) | (with_reducible refine NewPt.other ?_ (by omega) _ _))), (by repeat (first | assumption | ((with_reducible refine NewPt.at ?_ _ _ _ ?_) <;> (first | (simp; done) | (simp; omega) | omega | (simp [size_ext_eq]; done) | (simp [size_ext_eq]; omega))) | (with_reducible apply NewPt.alloc) | (with_reducible apply NewPt.drew) | (with_reducible apply NewPt.drewN) | (with_reducible apply NewPt.ext) | (with_reducible exact NewPt.store (by assumption) _ _) | (with_reducible refine NewPt.other ?_ (by omega) _ _)))⟩
  case round =>
    obtain ⟨k, a, px, py, hkn, rfl, rfl, hv, hpx, hpy, hkp, m1, m2⟩ := hrel
    have hbd := areasTo_bd A N HA.out k hkn
    obtain ⟨_, i1, p1, p2, p3, p4⟩ := id m1
    obtain ⟨_, i2, q1, q2, q3, q4⟩ := id m2
    by_cases hlt : k < N
    · obtain ⟨ra, rn, rc, hc', hr'⟩ := Hh.out k hlt
      have hb := HA.out k hlt
      have Hr := Lib.hid hr'
      have hGk : G < wr.heap.size := Nat.lt_of_lt_of_le hG hkp.size
      have hck := Kp.cell hkp hc' hG
      have hk4' : (k : Int) < (N : Int) := by omega
      have hstep : areasTo A (k + 1) = areasTo A k + A k := rfl
      have Hstep := Lib.hid hstep
      have Hv := Lib.hid hv
      have Hpx := Lib.hid hpx
      have Hpy := Lib.hid hpy
      clear hr' hv hpx hpy hstep
      go_wp2_with (go_at_call 42; (with_reducible refine (Hr.out _ (by repeat (first | (with_reducible exact Kp.refl _) | (with_reducible assumption) | (with_reducible apply Kp.ext) | (with_reducible apply Kp.alloc) | (with_reducible apply Kp.drew) | (with_reducible apply Kp.drewN) | (with_reducible refine Kp.setCell ?_ (by first | (dsimp only; omega) | (simp; omega) | (simp; done) | (simp [size_ext_eq]; omega)) _)))).mono ?_); rintro e w3 ⟨hx, hy, ar, rfl, bhx, bhy, hva, u3, hu3⟩; have hk3 : Kp wr w3 := (by rw [hu3]; exact (by repeat (first | (with_reducible exact Kp.refl _) | (with_reducible assumption) | (with_reducible apply Kp.ext) | (with_reducible apply Kp.alloc) | (with_reducible apply Kp.drew) | (with_reducible apply Kp.drewN) | (with_reducible refine Kp.setCell ?_ (by first | (dsimp only; omega) | (simp; omega) | (simp; done) | (simp [size_ext_eq]; omega)) _)))); clear hu3; have m1' := m1.kp hk3; have m2' := m2.kp hk3; have hkp3 := hkp.trans hk3; have z6 : w.heap.size < w3.heap.size := m1'.hi; obtain ⟨_, i9', t1', t2', t3', t4'⟩ := id m2'; have ha40 : Bd ar 40 := half_bd hva (by omega); obtain ⟨oa, ob, vx⟩ := sum_step2 Hpx.out bhx ha40 (by omega) (by omega); obtain ⟨oc, od, vy⟩ := sum_step2 Hpy.out bhy ha40 (by omega) (by omega); obtain ⟨oh, vh⟩ := add_half Hv.out hva (by omega); rw [← Hstep.out] at vh; have VH := Lib.hid vh; clear hva vh)
      exact ⟨⟨k + 1, _, _, _, by omega, rfl, by go_num, VH.out, vx.mono (by omega), vy.mono (by omega), (by repeat (first | (with_reducible exact Kp.refl _) | (with_reducible assumption) | (with_reducible apply Kp.ext) | (with_reducible apply Kp.alloc) | (with_reducible apply Kp.drew) | (with_reducible apply Kp.drewN) | (with_reducible refine Kp.setCell ?_ (by first | (dsimp only; omega) | (simp; omega) | (simp; done) | (simp [size_ext_eq]; omega)) _))), (m1'.other (k := w.heap.size + 1) (by omega) _ _).kp (by repeat (first | (with_reducible exact Kp.refl _) | (with_reducible assumption) | (with_reducible apply Kp.ext) | (with_reducible apply Kp.alloc) | (with_reducible apply Kp.drew) | (with_reducible apply Kp.drewN) | (with_reducible refine Kp.setCell ?_ (by first | (dsimp only; omega) | (simp; omega) | (simp; done) | (simp [size_ext_eq]; omega)) _))), (m2'.store _ _).kp (by repeat (first | (with_reducible exact Kp.refl _) | (with_reducible assumption) | (with_reducible apply Kp.ext) | (with_reducible apply Kp.alloc) | (with_reducible apply Kp.drew) | (with_reducible apply Kp.drewN) | (with_reducible refine Kp.setCell ?_ (by first | (dsimp only; omega) | (simp; omega) | (simp; done) | (simp [size_ext_eq]; omega)) _)))⟩, by simp [intOf]; omega⟩
    · obtain rfl : k = N := by omega
      have hz := half_eqF hv
      have Hv := Lib.hid hv
      have z6 : w.heap.size < wr.heap.size := i1
      by_cases hT : areasTo A k = 0
      · rw [decide_eq_true hT] at hz
        have HT := Lib.hid hT
        clear hv hpx hpy
        go_wp2_with fail
        refine bodyPost_ret (v := .tuple #[.agg #[.float .f64 0, .float .f64 0], .float .f64 0]) (by simp [results, Tryz.results43, go_sem, p1, p2, i1, i2]) rfl ?_
        exact ⟨_, _, _, rfl, by rw [HT.out]; exact half_zero, _, ext_of (show Kp w _ from (by repeat (first | (with_reducible exact Kp.refl _) | (with_reducible assumption) | (with_reducible apply Kp.ext) | (with_reducible apply Kp.alloc) | (with_reducible apply Kp.drew) | (with_reducible apply Kp.drewN) | (with_reducible refine Kp.setCell ?_ (by first | (dsimp only; omega) | (simp; omega) | (simp; done) | (simp [size_ext_eq]; omega)) _))))⟩
      · rw [decide_eq_false hT] at hz
        obtain ⟨o1, _⟩ := bd_quo hpx hv (half_far hT) (by omega)
        obtain ⟨o2, _⟩ := bd_quo hpy hv (half_far hT) (by omega)
        clear hv hpx hpy
        go_wp2_with fail
        refine bodyPost_ret (v := .tuple #[.agg #[.float .f64 (fop .quo px a), .float .f64 (fop .quo py a)], .float .f64 a]) (by simp [results, Tryz.results43, go_sem, p1, p2, i1, i2]) rfl ?_
        exact ⟨_, _, _, rfl, Hv.out, _, ext_of (show Kp w _ from (by repeat (first | (with_reducible exact Kp.refl _) | (with_reducible assumption) | (with_reducible apply Kp.ext) | (with_reducible apply Kp.alloc) | (with_reducible apply Kp.drew) | (with_reducible apply Kp.drewN) | (with_reducible refine Kp.setCell ?_ (by first | (dsimp only; omega) | (simp; omega) | (simp; done) | (simp [size_ext_eq]; omega)) _))))⟩
end Go.Proofs.YtohidpmkoehmcaaGreatDoor
