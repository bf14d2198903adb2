/-
  polygonCentroidArea, walked: the area of a polygon of a few rings.
-/
import Derived.Test.YtohidpmkoehmcaaGreatDoorMG6
import Derived.Test.YtohidpmkoehmcaaGreatDoorMpc
import Derived.Test.YtohidpmkoehmcaaGreatDoorMG5
set_option linter.all false
namespace Go.Proofs.YtohidpmkoehmcaaGreatDoor
open PubFl Go.RowKit

attribute [local go_sem] cell_ext frozen_ext ext_setCell cell_store size_ext_eq lt_p0 lt_p1 lt_p2 lt_p3 lt_p4 lt_p5 lt_p6 lt_p7 lt_p8 lt_p9 lt_p10 lt_p11 lt_p12 lt_p13 lt_p14 lt_p15 lt_p16 lt_p17 lt_p18 lt_p19 lt_p20 lt_p21 lt_p22 lt_p23 lt_p24 lt_p25 lt_p26 lt_p27 lt_p28 lt_p29 lt_p30 lt_p31 lt_p32 lt_q1 lt_q2 lt_q3 lt_q4 lt_q5 lt_q6 lt_q7 lt_q8 lt_q9 lt_q10 lt_q11 lt_q12 lt_q13 lt_q14 lt_q15 lt_q16 lt_q17 lt_q18 lt_q19 lt_q20 lt_q21 lt_q22 lt_q23 lt_q24 lt_q25 lt_q26 lt_q27 lt_q28 lt_q29 lt_q30 lt_q31 lt_q32 run_fop run_store_float
attribute [local go_sem high] cmp_eql cmp_neq cmp_lss cmp_leq cmp_gtr cmp_geq

/-- a ring: the middle is finite, and the area this word -/
def RingRet (w : World) (s0 : Nat) (e : Ending) (w' : World) : Prop := ∃ cx cy : Nat, e = .returned (.tuple #[.agg #[.float .f64 cx, .float .f64 cy], .float .f64 s0]) ∧ Bd cx 60 ∧ Bd cy 60 ∧ ∃ u, w' = ext w u
/-- a polygon: the middle is finite, and the area half of this number -/
def PolRet (w : World) (A : Int) (e : Ending) (w' : World) : Prop := ∃ cx cy a : Nat, e = .returned (.tuple #[.agg #[.float .f64 cx, .float .f64 cy], .float .f64 a]) ∧ Bd cx 320 ∧ Bd cy 320 ∧ IsV a (half A) ∧ ∃ u, w' = ext w u
/-- what a ring of a polygon is: its slice, its contract, twice its area -/
structure RingAt (w : World) (R i : Nat) (D : Int) : Prop where
  ex : ∃ g n c s0, w.cell? ⟨R, i, none⟩ = some (.slice (some ⟨g, 0, none⟩) n c) ∧ (∀ w', Kp w w' → Calls Tryz.prog 41 #[.slice (some ⟨g, 0, none⟩) n c] w' (RingRet w' s0)) ∧ (∀ w', Kp w w' → Calls Tryz.prog 54 #[.slice (some ⟨g, 0, none⟩) n c] w' (LscRet w')) ∧ IsV s0 (half D)
  bd : D.natAbs ≤ 8000000000
  ne : D ≠ 0
/-- a middle and its weight, summed -/
theorem sum_step {c h a n : Nat} (hc : Bd c n) (hh : Bd h 60) (ha : Bd a 40) (h1 : 101 ≤ n) (hn : n ≤ 900) : FOk .mul h a ∧ FOk .add c (fop .mul h a) ∧ Bd (fop .add c (fop .mul h a)) (n + 2) := by
  obtain ⟨o1, v1⟩ := bd_mul hh ha (by omega)
  obtain ⟨o2, v2⟩ := bd_add hc (v1.mono h1) (by omega)
  exact ⟨o1, o2, v2⟩
/-- the middle of what is left -/
theorem rest_step {a c p t n : Nat} {q : Rat} (ha : Bd a 40) (hc : Bd c 60) (hp : Bd p n) (ht : IsV t q) (hq : Far q) (h1 : 101 ≤ n) (hn : n ≤ 900) :
    FOk .mul a c ∧ FOk .sub (fop .mul a c) p ∧ FOk .quo (fop .sub (fop .mul a c) p) t ∧ Bd (fop .quo (fop .sub (fop .mul a c) p) t) (n + 4) := by
  obtain ⟨o1, v1⟩ := bd_mul ha hc (by omega)
  obtain ⟨o2, v2⟩ := bd_sub (v1.mono (m := n) (by omega)) hp (by omega)
  obtain ⟨o3, v3⟩ := bd_quo v2 ht hq (by omega)
  exact ⟨o1, o2, o3, v3⟩
/-- the areas of the holes before this one -/
def holesTo (D : Nat → Int) : Nat → Int
  | 0 => 0
  | k + 1 => holesTo D k + ((D (k + 1)).natAbs : Int)
theorem holesTo_bd (D : Nat → Int) (N : Nat) (h : ∀ i, i < N → (D i).natAbs ≤ 8000000000) : ∀ k, k + 1 ≤ N → 0 ≤ holesTo D k ∧ holesTo D k ≤ 8000000000 * k
  | 0, _ => ⟨by show (0 : Int) ≤ 0; omega, by show (0 : Int) ≤ 8000000000 * ((0 : Nat) : Int); omega⟩
  | k + 1, hk => by
    have := holesTo_bd D N h k (by omega)
    have := h (k + 1) (by omega)
    show 0 ≤ holesTo D k + _ ∧ holesTo D k + _ ≤ _
    omega

set_option maxRecDepth 100000 in
set_option maxHeartbeats 4000000 in
theorem pca1_c (R cap : Nat) (w : World) (hR : R < w.heap.size) (D : Int) (h : RingAt w R 0 D) :
    Calls Tryz.prog 42 #[.slice (some ⟨R, 0, none⟩) 1 cap] w (PolRet w (D.natAbs : Int)) := by
  obtain ⟨⟨g, n, c, s0, hc, hr, _, hv⟩, hb, hne⟩ := h
  have hva := half_abs hv
  have hz : eqF (absF s0) 0 = false := by rw [half_eqF hva]; exact decide_eq_false (by omega)
  have Hr := Lib.hid hr
  have Hva := Lib.hid hva
  clear hr hv hva
  go_enter Tryz.func42, Tryz.ntmps42
  go_wp2_with (first | (go_at_call 41; (with_reducible refine (Hr.out _ (by repeat (first | (with_reducible exact Kp.refl _) | (with_reducible assumption) | (with_reducible apply Kp.ext) | (with_reducible apply Kp.alloc) | (with_reducible apply Kp.drew) | (with_reducible apply Kp.drewN) | (with_reducible refine Kp.setCell ?_ (by first | (dsimp only; omega) | (simp; omega) | (simp; done) | (simp [size_ext_eq]; omega)) _)))).mono ?_); rintro e w1 ⟨cx, cy, rfl, hx, hy, u, rfl⟩) | (go_at_call 12; (first | (with_reducible refine (Ret.at_ext (abs_c _ _)).mono ?_) | (with_reducible refine (abs_c _ _).mono ?_)); rintro e w' ⟨rfl, u, rfl⟩))
  refine bodyPost_ret (v := .tuple #[.agg #[.float .f64 cx, .float .f64 cy], .float .f64 (absF s0)]) (by simp [results, Tryz.results42, go_sem]) rfl ?_
  exact ⟨cx, cy, _, rfl, hx.mono (by decide), hy.mono (by decide), Hva.out, _, ext_of (show Kp w _ from (by repeat (first | (with_reducible exact Kp.refl _) | (with_reducible assumption) | (with_reducible apply Kp.ext) | (with_reducible apply Kp.alloc) | (with_reducible apply Kp.drew) | (with_reducible apply Kp.drewN) | (with_reducible refine Kp.setCell ?_ (by first | (dsimp only; omega) | (simp; omega) | (simp; done) | (simp [size_ext_eq]; omega)) _))))⟩
set_option maxRecDepth 100000 in
set_option maxHeartbeats 4000000 in
theorem pcaN_c (R cap N : Nat) (h2 : 2 ≤ N) (h6 : N ≤ 6) (w : World) (hR : R < w.heap.size) (D : Nat → Int) (h : ∀ i, i < N → RingAt w R i (D i)) :
    Calls Tryz.prog 42 #[.slice (some ⟨R, 0, none⟩) N cap] w (PolRet w (((D 0).natAbs : Int) - holesTo D (N - 1))) := by
  obtain ⟨⟨g, n, c, s0, hc, hr, hls, hv⟩, hb, hne⟩ := h 0 (by omega)
  have hva := half_abs hv
  have Hr := Lib.hid hr
  have Hls := Lib.hid hls
  have Hva := Lib.hid hva
  have Hh := Lib.hid h
  have hl1 : ((0 : Int) < (N : Int)) := by omega
  have hl2 : ((N : Int) = 0) = False := eq_false (by omega)
  have hl3 : ((N : Int) == 0) = false := beq_eq_false_iff_ne.2 (by omega)
  have hl4 : ((N : Int) = 1) = False := eq_false (by omega)
  have hl5 : ((N : Int) == 1) = false := beq_eq_false_iff_ne.2 (by omega)
  clear hr hls hv hva h
  go_enter Tryz.func42, Tryz.ntmps42
  go_wp2_with (first | (go_at_call 41; (with_reducible refine (Hr.out _ (by repeat (first | (with_reducible exact Kp.refl _) | (with_reducible assumption) | (with_reducible apply Kp.ext) | (with_reducible apply Kp.alloc) | (with_reducible apply Kp.drew) | (with_reducible apply Kp.drewN) | (with_reducible refine Kp.setCell ?_ (by first | (dsimp only; omega) | (simp; omega) | (simp; done) | (simp [size_ext_eq]; omega)) _)))).mono ?_); rintro e w1 ⟨cx, cy, rfl, hx, hy, u, hu⟩; have hk1 : Kp w w1 := (by rw [hu]; exact (by repeat (first | (with_reducible exact Kp.refl _) | (with_reducible assumption) | (with_reducible apply Kp.ext) | (with_reducible apply Kp.alloc) | (with_reducible apply Kp.drew) | (with_reducible apply Kp.drewN) | (with_reducible refine Kp.setCell ?_ (by first | (dsimp only; omega) | (simp; omega) | (simp; done) | (simp [size_ext_eq]; omega)) _)))); have hz1 : w.heap.size < w1.heap.size := (by rw [hu]; simp [size_ext_eq]; omega); have hr0 : NewPt w w1 w.heap.size 0 0 := (by rw [hu]; exact (by repeat (first | assumption | ((with_reducible refine NewPt.at ?_ _ _ _ ?_) <;> (first | (simp; done) | (simp; omega) | omega | (simp [size_ext_eq]; done) | (simp [size_ext_eq]; omega))) | (with_reducible apply NewPt.alloc) | (with_reducible apply NewPt.drew) | (with_reducible apply NewPt.drewN) | (with_reducible apply NewPt.ext) | (with_reducible exact NewPt.store (by assumption) _ _) | (with_reducible refine NewPt.other ?_ (by omega) _ _)))); clear hu) | (go_at_call 12; (with_reducible refine (abs_c _ _).mono ?_); rintro e w2 ⟨rfl, u2, hu2⟩; have hk2 : Kp w1 w2 := (by rw [hu2]; exact (by repeat (first | (with_reducible exact Kp.refl _) | (with_reducible assumption) | (with_reducible apply Kp.ext) | (with_reducible apply Kp.alloc) | (with_reducible apply Kp.drew) | (with_reducible apply Kp.drewN) | (with_reducible refine Kp.setCell ?_ (by first | (dsimp only; omega) | (simp; omega) | (simp; done) | (simp [size_ext_eq]; omega)) _)))); have hz2 : w1.heap.size < w2.heap.size := (by rw [hu2]; simp [size_ext_eq]; omega); have hr4 : NewPt w w2 w1.heap.size cx cy := (by rw [hu2]; exact (NewPt.new w1 cx cy _ hk1.size).kp (by repeat (first | (with_reducible exact Kp.refl _) | (with_reducible assumption) | (with_reducible apply Kp.ext) | (with_reducible apply Kp.alloc) | (with_reducible apply Kp.drew) | (with_reducible apply Kp.drewN) | (with_reducible refine Kp.setCell ?_ (by first | (dsimp only; omega) | (simp; omega) | (simp; done) | (simp [size_ext_eq]; omega)) _)))); clear hu2))
  have m0 := hr0.kp hk2
  have hkw2 := hk1.trans hk2
  go_loopw [8, 10] (fun s8 s10 wr => ∃ (k hA px py : Nat), k + 1 ≤ N ∧ s8 = .float .f64 hA ∧ s10 = .int .i64 ((k : Int) + 1) ∧ IsV hA (half (holesTo D k)) ∧ Bd px (110 + 2 * k) ∧ Bd py (110 + 2 * k) ∧ Kp w wr ∧ NewPt w wr w.heap.size 0 0 ∧ NewPt w wr w1.heap.size cx cy ∧ NewPt w wr w2.heap.size px py) (fun _ s10 _ => N - (intOf s10).toNat)
  case atStart => exact ⟨0, 0, 0, 0, by omega, rfl, rfl, half_zero, Bd.int (a := 0) zero_isV (by decide), Bd.int (a := 0) zero_isV (by decide), (by repeat (first | (with_reducible exact Kp.refl _) | (with_reducible assumption) | (with_reducible apply Kp.ext) | (with_reducible apply Kp.alloc) | (with_reducible apply Kp.drew) | (with_reducible apply Kp.drewN) | (with_reducible refine Kp.setCell ?_ (by first | (dsimp only; omega) | (simp; omega) | (simp; done) | (simp [size_ext_eq]; omega)) _))), m0.kp (by repeat (first | (with_reducible exact Kp.refl _) | (with_reducible assumption) | (with_reducible apply Kp.ext) | (with_reducible apply Kp.alloc) | (with_reducible apply Kp.drew) | (with_reducible apply Kp.drewN) | (with_reducible refine Kp.setCell ?_ (by first | (dsimp only; omega) | (simp; omega) | (simp; done) | (simp [size_ext_eq]; omega)) _))), hr4.kp (by repeat (first | (with_reducible exact Kp.refl _) | (with_reducible assumption) | (with_reducible apply Kp.ext) | (with_reducible apply Kp.alloc) | (with_reducible apply Kp.drew) | (with_reducible apply Kp.drewN) | (with_reducible refine Kp.setCell ?_ (by first | (dsimp only; omega) | (simp; omega) | (simp; done) | (simp [size_ext_eq]; omega)) _))), NewPt.new w2 0 0 _ hkw2.size⟩
  case round =>
    obtain ⟨k, hA, px, py, hkn, rfl, rfl, hv, hpx, hpy, hkp, m1, m4, m9⟩ := hrel
    clear hr0 hr4 m0
    have hbd := holesTo_bd D N (fun i hi => (Hh.out i hi).bd) k hkn
    by_cases hlt : k + 1 < N
    · obtain ⟨⟨g', n', c', s', hc', hr', _, hv'⟩, hb', hne'⟩ := Hh.out (k + 1) hlt
      have hva' := half_abs hv'
      obtain ⟨oh, vh⟩ := add_half hv hva' (by omega)
      have hstep : holesTo D (k + 1) = holesTo D k + ((D (k + 1)).natAbs : Int) := rfl
      rw [← hstep] at vh
      have VH := Lib.hid vh
      have Hr' := Lib.hid hr'
      have hRk : R < wr.heap.size := Nat.lt_of_lt_of_le hR hkp.size
      have hck := Kp.cell hkp hc' hR
      have hk1' : ((k : Int) + 1 < (N : Int)) = True := eq_true (by omega)
      have hk2' : (0 : Int) ≤ (k : Int) + 1 := by omega
      have hk3' : ((k : Int) + 1).toNat = k + 1 := by omega
      have hk4' : (k : Int) + 1 < (N : Int) := by omega
      have ha40 : Bd (absF s') 40 := half_bd hva' (by omega)
      obtain ⟨N1, i1, p1, p2, p3, p4⟩ := id m1
      obtain ⟨N4, i4, q1, q2, q3, q4⟩ := id m4
      obtain ⟨N9, i9, t1, t2, t3, t4⟩ := id m9
      have hne9 : ¬ (w2.heap.size = w1.heap.size) := by omega
      clear hv hva' hr' hv' vh hstep
      go_wp2_with (first | (go_at_call 41; (with_reducible refine (Hr'.out _ (by repeat (first | (with_reducible exact Kp.refl _) | (with_reducible assumption) | (with_reducible apply Kp.ext) | (with_reducible apply Kp.alloc) | (with_reducible apply Kp.drew) | (with_reducible apply Kp.drewN) | (with_reducible refine Kp.setCell ?_ (by first | (dsimp only; omega) | (simp; omega) | (simp; done) | (simp [size_ext_eq]; omega)) _)))).mono ?_); rintro e w3 ⟨hx, hy, rfl, bhx, bhy, u3, hu3⟩; have hk3 : Kp wr w3 := (by rw [hu3]; exact (by repeat (first | (with_reducible exact Kp.refl _) | (with_reducible assumption) | (with_reducible apply Kp.ext) | (with_reducible apply Kp.alloc) | (with_reducible apply Kp.drew) | (with_reducible apply Kp.drewN) | (with_reducible refine Kp.setCell ?_ (by first | (dsimp only; omega) | (simp; omega) | (simp; done) | (simp [size_ext_eq]; omega)) _)))); clear hu3; have m1' := m1.kp hk3; have m4' := m4.kp hk3; have m9' := m9.kp hk3; have hkp3 := hkp.trans hk3; obtain ⟨_, i9', t1', t2', t3', t4'⟩ := id m9'; obtain ⟨oa, ob, vx⟩ := sum_step hpx bhx ha40 (by omega) (by omega); obtain ⟨oc, od, vy⟩ := sum_step hpy bhy ha40 (by omega) (by omega)) | (go_at_call 12; (first | (with_reducible refine (Ret.at_ext (abs_c _ _)).mono ?_) | (with_reducible refine (abs_c _ _).mono ?_)); rintro e w' ⟨rfl, u, rfl⟩))
      exact ⟨⟨k + 1, _, _, _, by omega, rfl, by go_num, VH.out, vx.mono (by omega), vy.mono (by omega), (by repeat (first | (with_reducible exact Kp.refl _) | (with_reducible assumption) | (with_reducible apply Kp.ext) | (with_reducible apply Kp.alloc) | (with_reducible apply Kp.drew) | (with_reducible apply Kp.drewN) | (with_reducible refine Kp.setCell ?_ (by first | (dsimp only; omega) | (simp; omega) | (simp; done) | (simp [size_ext_eq]; omega)) _))), (m1'.other (k := w2.heap.size) (by omega) _ _).kp (by repeat (first | (with_reducible exact Kp.refl _) | (with_reducible assumption) | (with_reducible apply Kp.ext) | (with_reducible apply Kp.alloc) | (with_reducible apply Kp.drew) | (with_reducible apply Kp.drewN) | (with_reducible refine Kp.setCell ?_ (by first | (dsimp only; omega) | (simp; omega) | (simp; done) | (simp [size_ext_eq]; omega)) _))), (m4'.other (k := w2.heap.size) (by omega) _ _).kp (by repeat (first | (with_reducible exact Kp.refl _) | (with_reducible assumption) | (with_reducible apply Kp.ext) | (with_reducible apply Kp.alloc) | (with_reducible apply Kp.drew) | (with_reducible apply Kp.drewN) | (with_reducible refine Kp.setCell ?_ (by first | (dsimp only; omega) | (simp; omega) | (simp; done) | (simp [size_ext_eq]; omega)) _))), (m9'.store _ _).kp (by repeat (first | (with_reducible exact Kp.refl _) | (with_reducible assumption) | (with_reducible apply Kp.ext) | (with_reducible apply Kp.alloc) | (with_reducible apply Kp.drew) | (with_reducible apply Kp.drewN) | (with_reducible refine Kp.setCell ?_ (by first | (dsimp only; omega) | (simp; omega) | (simp; done) | (simp [size_ext_eq]; omega)) _)))⟩, by simp [intOf]; omega⟩
    · have hkN : k + 1 = N := by omega
      have hk1' : ((k : Int) + 1 < (N : Int)) = False := eq_false (by omega)
      have hva0 := Hva.out
      obtain ⟨ot, vt⟩ := sub_half hva0 hv (by omega)
      have hk : N - 1 = k := by omega
      have HK := Lib.hid hk
      have VT := Lib.hid vt
      have hz := half_eqF vt
      have ha40 : Bd (absF s0) 40 := half_bd hva0 (by omega)
      have hRk : R < wr.heap.size := Nat.lt_of_lt_of_le hR hkp.size
      have hck := Kp.cell hkp hc hR
      have hl1k : (k : Int) + 1 = (N : Int) := by omega
      have hkc : (k : Int) < (N : Int) := by omega
      obtain ⟨N1, i1, p1, p2, p3, p4⟩ := id m1
      obtain ⟨N4, i4, q1, q2, q3, q4⟩ := id m4
      obtain ⟨N9, i9, t1, t2, t3, t4⟩ := id m9
      have hne9 : ¬ (w2.heap.size = w1.heap.size) := by omega
      have hne1 : ¬ (w1.heap.size = w.heap.size) := by omega
      by_cases hT : ((D 0).natAbs : Int) - holesTo D k = 0
      · rw [decide_eq_true hT] at hz
        have HT := Lib.hid hT
        clear hv hva0 vt hpx hpy hkN hk hl1k
        go_wp2_with (go_at_call 54; (with_reducible refine (Hls.out _ (by repeat (first | (with_reducible exact Kp.refl _) | (with_reducible assumption) | (with_reducible apply Kp.ext) | (with_reducible apply Kp.alloc) | (with_reducible apply Kp.drew) | (with_reducible apply Kp.drewN) | (with_reducible refine Kp.setCell ?_ (by first | (dsimp only; omega) | (simp; omega) | (simp; done) | (simp [size_ext_eq]; omega)) _)))).mono ?_); rintro e w3 ⟨lx, ly, ld, rfl, blx, bly, _, u3, hu3⟩; have hk3 : Kp wr w3 := (by rw [hu3]; exact (by repeat (first | (with_reducible exact Kp.refl _) | (with_reducible assumption) | (with_reducible apply Kp.ext) | (with_reducible apply Kp.alloc) | (with_reducible apply Kp.drew) | (with_reducible apply Kp.drewN) | (with_reducible refine Kp.setCell ?_ (by first | (dsimp only; omega) | (simp; omega) | (simp; done) | (simp [size_ext_eq]; omega)) _)))); clear hu3; have m1' := m1.kp hk3; have hkp3 := hkp.trans hk3; obtain ⟨_, i1', p1', p2', p3', p4'⟩ := id m1')
        refine bodyPost_ret (v := .tuple #[.agg #[.float .f64 lx, .float .f64 ly], .float .f64 0]) (by simp [results, Tryz.results42, go_sem, p1', p2', i1']) rfl ?_
        exact ⟨lx, ly, 0, rfl, blx.mono (by decide), bly.mono (by decide), by rw [HK.out, HT.out]; exact half_zero, _, ext_of (show Kp w _ from (by repeat (first | (with_reducible exact Kp.refl _) | (with_reducible assumption) | (with_reducible apply Kp.ext) | (with_reducible apply Kp.alloc) | (with_reducible apply Kp.drew) | (with_reducible apply Kp.drewN) | (with_reducible refine Kp.setCell ?_ (by first | (dsimp only; omega) | (simp; omega) | (simp; done) | (simp [size_ext_eq]; omega)) _))))⟩
      · rw [decide_eq_false hT] at hz
        have hfar := half_far hT
        obtain ⟨o1, o2, o3, v3⟩ := rest_step ha40 hx hpx vt hfar (by omega) (by omega)
        obtain ⟨o4, o5, o6, v6⟩ := rest_step ha40 hy hpy vt hfar (by omega) (by omega)
        clear hv hva0 vt hpx hpy hkN hk hl1k hfar
        go_wp2_with fail
        refine bodyPost_ret (v := .tuple #[.agg #[.float .f64 (fop .quo (fop .sub (fop .mul (absF s0) cx) px) (fop .sub (absF s0) hA)), .float .f64 (fop .quo (fop .sub (fop .mul (absF s0) cy) py) (fop .sub (absF s0) hA))], .float .f64 (fop .sub (absF s0) hA)]) (by simp [results, Tryz.results42, go_sem, p1, p2, i1, i4, i9]) rfl ?_
        exact ⟨_, _, _, rfl, v3.mono (by omega), v6.mono (by omega), by rw [HK.out]; exact VT.out, _, ext_of (show Kp w _ from (by repeat (first | (with_reducible exact Kp.refl _) | (with_reducible assumption) | (with_reducible apply Kp.ext) | (with_reducible apply Kp.alloc) | (with_reducible apply Kp.drew) | (with_reducible apply Kp.drewN) | (with_reducible refine Kp.setCell ?_ (by first | (dsimp only; omega) | (simp; omega) | (simp; done) | (simp [size_ext_eq]; omega)) _))))⟩
end Go.Proofs.YtohidpmkoehmcaaGreatDoor
