/-
  spec.IsSimple of any points; spec.Has and impl.RingHas; laws.FnRingHas, walked: it answers true.
-/
import Derived.Test.YtohidpmkoehmcaaGreatDoorHas
import Derived.Test.YtohidpmkoehmcaaGreatDoorMG7
import Derived.Deep.Slices
set_option linter.all false
namespace Go.Proofs.YtohidpmkoehmcaaGreatDoor
open PubFl Go.RowKit

attribute [local go_sem] cell_ext frozen_ext ext_setCell cell_store size_ext_eq lt_p0 lt_p1 lt_p2 lt_p3 lt_p4 lt_p5 lt_p6 lt_p7 lt_p8 lt_p9 lt_p10 lt_p11 lt_p12 lt_p13 lt_p14 lt_p15 lt_p16 lt_p17 lt_p18 lt_p19 lt_p20 lt_p21 lt_p22 lt_p23 lt_p24 lt_p25 lt_p26 lt_p27 lt_p28 lt_p29 lt_p30 lt_p31 lt_p32 lt_q1 lt_q2 lt_q3 lt_q4 lt_q5 lt_q6 lt_q7 lt_q8 lt_q9 lt_q10 lt_q11 lt_q12 lt_q13 lt_q14 lt_q15 lt_q16 lt_q17 lt_q18 lt_q19 lt_q20 lt_q21 lt_q22 lt_q23 lt_q24 lt_q25 lt_q26 lt_q27 lt_q28 lt_q29 lt_q30 lt_q31 lt_q32 run_fop run_store_float
attribute [local go_sem high] cmp_eql cmp_neq cmp_lss cmp_leq cmp_gtr cmp_geq

theorem pointB_w {x y : Nat} (hx : x < 2 ^ 64) (hy : y < 2 ^ 64) (h : pointB x y = true) : ∃ p : Int × Int, PtW x y p := by
  unfold pointB at h
  simp only [Bool.and_eq_true] at h
  obtain ⟨a, h1, h2, h3, h4⟩ := wholeB_int hx h.1
  obtain ⟨b, k1, k2, k3, k4⟩ := wholeB_int hy h.2
  exact ⟨(a, b), ⟨⟨h1, k1, ⟨h2, h3⟩, ⟨k2, k3⟩⟩, h4, k4⟩⟩
theorem ring_intw (ps : List (Nat × Nat)) (hbits : Bits ps) (h : ringB ps = true) : 4 ≤ ps.length ∧ ps.length ≤ 100 ∧ ∃ P : Nat → Int × Int, IntW ps P ∧ P (ps.length - 1) = P 0 := by
  unfold ringB arePtsB at h
  simp only [Bool.and_eq_true, decide_eq_true_eq, List.all_eq_true] at h
  obtain ⟨⟨h4, hall, hle⟩, hm⟩ := h
  have hp : ∀ i, i < ps.length → ∃ q : Int × Int, PtW (ps.getD i (0, 0)).1 (ps.getD i (0, 0)).2 q := fun i hi => by
    rw [getD_in _ _ hi]
    obtain ⟨g0, g1⟩ := hbits i hi
    exact pointB_w g0 g1 (hall _ (List.getElem_mem hi))
  obtain ⟨q, hq⟩ := Go.Deep.choose_lt hp
  refine ⟨h4, by omega, q, fun i hi => by have := hq i hi; rwa [getD_in _ _ hi] at this, ?_⟩
  unfold meetsB at hm
  simp only [Bool.and_eq_true] at hm
  have a := hq 0 (by omega)
  have b := hq (ps.length - 1) (by omega)
  rw [eqF_int a.x b.x, eqF_int a.y b.y] at hm
  simp only [decide_eq_true_eq] at hm
  exact Prod.ext hm.1.symm hm.2.symm

theorem notRing_c (a : Option Addr) (cap : Nat) (ps : List (Nat × Nat)) (hn : ps.length ≤ 2147483647) (hbits : Bits ps) (hR : ringB ps = false) (w : World) (hs : PtsIn w a ps) : Calls Tryz.prog 11 #[.slice a ps.length cap] w (Ret w (.bool false)) := by
  have hc := fun w' (hk : Kp w w') => isRing_c a cap ps hn w' (hs.kp hk) hbits
  rw [hR] at hc
  have Hc := Lib.hid hc
  clear hc hR hs
  go_enter Tryz.func11, Tryz.ntmps11
  go_wp2_with (go_at_call 20; (first | (with_reducible refine (Ret.at_ext (Hc.out _ (by repeat (first | (with_reducible exact Kp.refl _) | (with_reducible assumption) | (with_reducible apply Kp.ext) | (with_reducible apply Kp.alloc) | (with_reducible apply Kp.drew) | (with_reducible apply Kp.drewN) | (with_reducible refine Kp.setCell ?_ (by first | (dsimp only; omega) | (simp; omega) | (simp; done) | (simp [size_ext_eq]; omega)) _))))).mono ?_) | (with_reducible refine (Hc.out _ (by repeat (first | (with_reducible exact Kp.refl _) | (with_reducible assumption) | (with_reducible apply Kp.ext) | (with_reducible apply Kp.alloc) | (with_reducible apply Kp.drew) | (with_reducible apply Kp.drewN) | (with_reducible refine Kp.setCell ?_ (by first | (dsimp only; omega) | (simp; omega) | (simp; done) | (simp [size_ext_eq]; omega)) _)))).mono ?_)); rintro e w' ⟨rfl, u, rfl⟩)
  go_ret
  exact Ret.mk rfl (by repeat (first | (with_reducible exact Kp.refl _) | (with_reducible assumption) | (with_reducible apply Kp.ext) | (with_reducible apply Kp.alloc) | (with_reducible apply Kp.drew) | (with_reducible apply Kp.drewN) | (with_reducible refine Kp.setCell ?_ (by first | (dsimp only; omega) | (simp; omega) | (simp; done) | (simp [size_ext_eq]; omega)) _)))
/-- IsSimple, whatever the points -/
theorem simple_ex (ps : List (Nat × Nat)) (hn : ps.length ≤ 2147483647) (hbits : Bits ps) : ∃ r : Bool, (∀ (a : Option Addr) (cap : Nat) (w : World), PtsIn w a ps → Calls Tryz.prog 11 #[.slice a ps.length cap] w (Ret w (.bool r))) ∧
    (r = true → 4 ≤ ps.length ∧ ps.length ≤ 100 ∧ ∃ P : Nat → Int × Int, IntW ps P ∧ P (ps.length - 1) = P 0) := by
  cases hR : ringB ps
  · exact ⟨false, fun a cap w hs => notRing_c a cap ps hn hbits hR w hs, fun h => by cases h⟩
  · obtain ⟨h4, hle, P, hP, hc⟩ := ring_intw ps hbits hR
    refine ⟨simpleI (fun i => P i) (ps.length - 1) (sgn (sumTo (crossT (fun i => (P i).1) (fun i => (P i).2)) (ps.length - 1))), fun a cap w hs => ?_, fun _ => ⟨h4, hle, P, hP, hc⟩⟩
    obtain ⟨b, off, rfl, hb, hpt⟩ := hs.cells (by omega)
    exact isSimple_c b off cap ps h4 hle w hb hpt hbits hR _ _ hP.pts _ (simp_facts _ _ _)

set_option maxHeartbeats 1600000 in
theorem ringHas_c (a : Option Addr) (cap : Nat) (ps : List (Nat × Nat)) (hn : ps.length ≤ 1000) (hpos : 2 ≤ ps.length) (w : World) (hs : PtsIn w a ps) (P : Nat → Int × Int) (hi : IntW ps P) (hc : P (ps.length - 1) = P 0) (px py : Nat) (p : Int × Int) (hp : PtW px py p) :
    Calls Tryz.prog 16 #[.slice a ps.length cap, .agg #[.float .f64 px, .float .f64 py]] w (Ret w (.bool (hasI P (ps.length - 1) p))) := by
  have hin := Lib.hid (fun w' (hk : Kp w w') => pointsOf_c a cap ps (by omega) w' (hs.kp hk))
  have hR := Lib.hid (fun g cap' w' hg hpt => ringContains_c g 0 cap' ps hn hpos w' hg hpt P hi hc px py p hp)
  have hpos' : 0 < ps.length := by omega
  clear hs hi hc hp
  go_enter Tryz.func16, Tryz.ntmps16
  go_wp2_with fail
  go_region_held3 (fun w' => w'.cell? ⟨w.heap.size, 0, none⟩ = some (.float .f64 px) ∧ w'.cell? ⟨w.heap.size, 1, none⟩ = some (.float .f64 py)) (simp [go_sem])
    (first | (go_at_call 26; refine (hin.out _ (by repeat (first | (with_reducible exact Kp.refl _) | (with_reducible assumption) | (with_reducible apply Kp.ext) | (with_reducible apply Kp.alloc) | (with_reducible apply Kp.drew) | (with_reducible apply Kp.drewN) | (with_reducible refine Kp.setCell ?_ (by first | (dsimp only; omega) | (simp; omega) | (simp; done) | (simp [size_ext_eq]; omega)) _)))).mono ?_; rintro e w1 ⟨v, u, rfl, rfl, hnew⟩; obtain ⟨g, cap', rfl, _, hg2, _, _, hpt⟩ := hnew.form hpos') | (go_at_call 27; (first | (with_reducible refine (Ret.at_ext (hR.out _ _ _ hg2 hpt)).mono ?_) | (with_reducible refine (hR.out _ _ _ hg2 hpt).mono ?_)); rintro e w' ⟨rfl, u, rfl⟩))
  all_goals
    rename_i hHeld; clear hHeld
    go_wp2_with fail
    go_ret
    exact Ret.mk rfl (by repeat (first | (with_reducible exact Kp.refl _) | (with_reducible assumption) | (with_reducible apply Kp.ext) | (with_reducible apply Kp.alloc) | (with_reducible apply Kp.drew) | (with_reducible apply Kp.drewN) | (with_reducible refine Kp.setCell ?_ (by first | (dsimp only; omega) | (simp; omega) | (simp; done) | (simp [size_ext_eq]; omega)) _)))

end Go.Proofs.YtohidpmkoehmcaaGreatDoor
