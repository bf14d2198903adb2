/-
  spec.AreaOf, walked.
-/
import Derived.Test.YtohidpmkoehmcaaGreatDoorAr
import Derived.Test.YtohidpmkoehmcaaGreatDoorPolyHas
set_option linter.all false
namespace Go.Proofs.YtohidpmkoehmcaaGreatDoor
open PubFl Go.RowKit

attribute [local go_sem] cell_ext frozen_ext ext_setCell cell_store size_ext_eq lt_p0 lt_p1 lt_p2 lt_p3 lt_p4 lt_p5 lt_p6 lt_p7 lt_p8 lt_p9 lt_p10 lt_p11 lt_p12 lt_p13 lt_p14 lt_p15 lt_p16 lt_p17 lt_p18 lt_p19 lt_p20 lt_p21 lt_p22 lt_p23 lt_p24 lt_p25 lt_p26 lt_p27 lt_p28 lt_p29 lt_p30 lt_p31 lt_p32 lt_q1 lt_q2 lt_q3 lt_q4 lt_q5 lt_q6 lt_q7 lt_q8 lt_q9 lt_q10 lt_q11 lt_q12 lt_q13 lt_q14 lt_q15 lt_q16 lt_q17 lt_q18 lt_q19 lt_q20 lt_q21 lt_q22 lt_q23 lt_q24 lt_q25 lt_q26 lt_q27 lt_q28 lt_q29 lt_q30 lt_q31 lt_q32 run_fop run_store_float
attribute [local go_sem high] cmp_eql cmp_neq cmp_lss cmp_leq cmp_gtr cmp_geq

def DblRet (w : World) (D : Int) (e : Ending) (w' : World) : Prop := ∃ s, e = .returned (.float .f64 s) ∧ IsV s (D : Int) ∧ ∃ u, w' = ext w u
theorem half_quo {x : Nat} {a : Int} (h : IsV x (a : Rat)) (ha : a.natAbs < 2 ^ 53) : FOk .quo x 4611686018427387904 ∧ IsV (fop .quo x 4611686018427387904) (half a) := by
  have hf : (2 : Rat) ^ (-((1 : Nat) : Int)) = 1 / 2 := by decide +kernel
  exact quo_few (v := (a : Rat) * (2 : Rat) ^ (-((1 : Nat) : Int))) h two_far.1 (by decide) (by
    have h2 : ((2 : Int) : Rat) = 2 := rfl
    rw [h2, hf]; grind) (few_part 1 (by decide) ha)

set_option maxRecDepth 100000 in
set_option maxHeartbeats 4000000 in
theorem areaOf_c (kd P : Value) (L off N cap : Nat) (h0 : 0 < N) (h6 : N ≤ 6) (hcap : N ≤ cap) (w : World) (hL : L < w.heap.size) (D : Nat → Int) (hD : ∀ i, i < N → (D i).natAbs ≤ 8000000000)
    (h : ∀ i, i < N → ∃ a n c, w.cell? ⟨L, off + i, none⟩ = some (.slice a n c) ∧ ∀ w', Kp w w' → Calls Tryz.prog 13 #[.slice a n c] w' (DblRet w' (D i))) :
    Calls Tryz.prog 6 #[.agg #[kd, .slice (some ⟨L, off, none⟩) N cap, P]] w (AreaV w (((D 0).natAbs : Int) - holesTo D (N - 1))) := by
  obtain ⟨ra, rn, rc, hc, hr⟩ := h 0 h0
  rw [Nat.add_zero] at hc
  have Hr := Lib.hid hr
  have Hh := Lib.hid h
  have HD := Lib.hid hD
  have hl1 : (0 : Int) < (N : Int) := by omega
  have hl2 : (1 : Int) ≤ (N : Int) := by omega
  have hl3 : (1 : Nat) ≤ N := by omega
  have hl4 : (N : Int) ≤ (cap : Int) := by omega
  clear hr h hD
  by_cases h1 : cap = 1
  · have hN : N = 1 := by omega
    subst hN
    subst h1
    clear hl1 hl2 hl3 hl4 hcap h6 h0
    go_enter Tryz.func6, Tryz.ntmps6
    go_wp2_with (first | (go_at_call 13; (with_reducible refine (Hr.out _ (by repeat (first | (with_reducible exact Kp.refl _) | (with_reducible assumption) | (with_reducible apply Kp.ext) | (with_reducible apply Kp.alloc) | (with_reducible apply Kp.drew) | (with_reducible apply Kp.drewN) | (with_reducible refine Kp.setCell ?_ (by first | (dsimp only; omega) | (simp; omega) | (simp; done) | (simp [size_ext_eq]; omega)) _)))).mono ?_); rintro e w1 ⟨s, rfl, hv, u, hu⟩; have hk1 : Kp w w1 := (by rw [hu]; exact (by repeat (first | (with_reducible exact Kp.refl _) | (with_reducible assumption) | (with_reducible apply Kp.ext) | (with_reducible apply Kp.alloc) | (with_reducible apply Kp.drew) | (with_reducible apply Kp.drewN) | (with_reducible refine Kp.setCell ?_ (by first | (dsimp only; omega) | (simp; omega) | (simp; done) | (simp [size_ext_eq]; omega)) _)))); have hb1 : w1.cell? ⟨w.heap.size, 1, none⟩ = some (.slice (some ⟨L, off, none⟩) 1 1) := (by rw [hu]; simp [go_sem]); have hz1 : w.heap.size < w1.heap.size := (by rw [hu]; simp [size_ext_eq]; omega); have Hv := Lib.hid hv; clear hu hv) | (go_at_call 12; (first | (with_reducible refine (Ret.at_ext (abs_c _ _)).mono ?_) | (with_reducible refine (abs_c _ _).mono ?_)); rintro e w' ⟨rfl, u, rfl⟩))
    go_loopw [3, 16] (fun s3 s16 wr => s3 = .float .f64 (absF s) ∧ s16 = .int .i64 0 ∧ Kp w wr) (fun _ _ _ => 0)
    case atStart => exact ⟨rfl, rfl, (by repeat (first | (with_reducible exact Kp.refl _) | (with_reducible assumption) | (with_reducible apply Kp.ext) | (with_reducible apply Kp.alloc) | (with_reducible apply Kp.drew) | (with_reducible apply Kp.drewN) | (with_reducible refine Kp.setCell ?_ (by first | (dsimp only; omega) | (simp; omega) | (simp; done) | (simp [size_ext_eq]; omega)) _)))⟩
    case round =>
      obtain ⟨rfl, rfl, hkp⟩ := hrel
      have hD0 := HD.out 0 (by omega)
      obtain ⟨oq, vq⟩ := half_quo (absF_int Hv.out) (by omega)
      have VQ := Lib.hid vq
      go_wp2_with fail
      go_ret
      exact ⟨_, rfl, by
        have e : ((D 0).natAbs : Int) - holesTo D (1 - 1) = ((D 0).natAbs : Int) := by show _ - (0 : Int) = _; omega
        rw [e]; exact VQ.out, _, ext_of (show Kp w _ from (by repeat (first | (with_reducible exact Kp.refl _) | (with_reducible assumption) | (with_reducible apply Kp.ext) | (with_reducible apply Kp.alloc) | (with_reducible apply Kp.drew) | (with_reducible apply Kp.drewN) | (with_reducible refine Kp.setCell ?_ (by first | (dsimp only; omega) | (simp; omega) | (simp; done) | (simp [size_ext_eq]; omega)) _))))⟩
  obtain ⟨m, hm⟩ : ∃ m : Nat, N = m + 1 := ⟨N - 1, by omega⟩
  have hm1 : N - 1 = m := by omega
  have hm2 : (N : Int) - 1 = (m : Int) := by omega
  have hm3 : ((N : Int) - 1).toNat = m := by omega
  have hm5 : m ≤ 5 := by omega
  rw [hm1]
  have Hm := Lib.hid hm
  clear hm
  go_enter Tryz.func6, Tryz.ntmps6
  go_wp2_with (first | (go_at_call 13; (with_reducible refine (Hr.out _ (by repeat (first | (with_reducible exact Kp.refl _) | (with_reducible assumption) | (with_reducible apply Kp.ext) | (with_reducible apply Kp.alloc) | (with_reducible apply Kp.drew) | (with_reducible apply Kp.drewN) | (with_reducible refine Kp.setCell ?_ (by first | (dsimp only; omega) | (simp; omega) | (simp; done) | (simp [size_ext_eq]; omega)) _)))).mono ?_); rintro e w1 ⟨s, rfl, hv, u, hu⟩; have hk1 : Kp w w1 := (by rw [hu]; exact (by repeat (first | (with_reducible exact Kp.refl _) | (with_reducible assumption) | (with_reducible apply Kp.ext) | (with_reducible apply Kp.alloc) | (with_reducible apply Kp.drew) | (with_reducible apply Kp.drewN) | (with_reducible refine Kp.setCell ?_ (by first | (dsimp only; omega) | (simp; omega) | (simp; done) | (simp [size_ext_eq]; omega)) _)))); have hb1 : w1.cell? ⟨w.heap.size, 1, none⟩ = some (.slice (some ⟨L, off, none⟩) N cap) := (by rw [hu]; simp [go_sem]); have hz1 : w.heap.size < w1.heap.size := (by rw [hu]; simp [size_ext_eq]; omega); have Hv := Lib.hid hv; clear hu hv) | (go_at_call 12; (first | (with_reducible refine (Ret.at_ext (abs_c _ _)).mono ?_) | (with_reducible refine (abs_c _ _).mono ?_)); rintro e w' ⟨rfl, u, rfl⟩))
  go_loopw [3, 16] (fun s3 s16 wr => ∃ k a : Nat, k ≤ m ∧ s3 = .float .f64 a ∧ s16 = .int .i64 k ∧ IsV a (((D 0).natAbs : Int) - holesTo D k : Int) ∧ Kp w wr) (fun _ s16 _ => m - (intOf s16).toNat)
  case atStart => exact ⟨0, _, Nat.zero_le _, rfl, rfl, by
      have e : ((D 0).natAbs : Int) - holesTo D 0 = ((D 0).natAbs : Int) := by show _ - (0 : Int) = _; omega
      rw [e]; exact absF_int Hv.out, (by repeat (first | (with_reducible exact Kp.refl _) | (with_reducible assumption) | (with_reducible apply Kp.ext) | (with_reducible apply Kp.alloc) | (with_reducible apply Kp.drew) | (with_reducible apply Kp.drewN) | (with_reducible refine Kp.setCell ?_ (by first | (dsimp only; omega) | (simp; omega) | (simp; done) | (simp [size_ext_eq]; omega)) _)))⟩
  case round =>
    obtain ⟨k, a, hkm, rfl, rfl, hv, hkp⟩ := hrel
    have hbd := holesTo_bd D N HD.out k (by have := Hm.out; omega)
    have hD0 := HD.out 0 (by omega)
    by_cases hlt : k < m
    · have hk1 : k + 1 < N := by have := Hm.out; omega
      obtain ⟨ra', rn', rc', hc', hr'⟩ := Hh.out (k + 1) hk1
      have hDk := HD.out (k + 1) hk1
      have hLk : L < wr.heap.size := Nat.lt_of_lt_of_le hL hkp.size
      have hck := Kp.cell hkp hc' hL
      rw [show off + (k + 1) = off + 1 + k by omega] at hck
      have Hr' := Lib.hid hr'
      have hki : (k : Int) < (m : Int) := by omega
      have hstep : ((D 0).natAbs : Int) - holesTo D k - ((D (k + 1)).natAbs : Int) = ((D 0).natAbs : Int) - holesTo D (k + 1) := by
        show _ = _ - (holesTo D k + _); omega
      have Hstep := Lib.hid hstep
      have Hva := Lib.hid hv
      clear hr' hc' hv hstep
      go_wp2_with (first | (go_at_call 13; (with_reducible refine (Hr'.out _ (by repeat (first | (with_reducible exact Kp.refl _) | (with_reducible assumption) | (with_reducible apply Kp.ext) | (with_reducible apply Kp.alloc) | (with_reducible apply Kp.drew) | (with_reducible apply Kp.drewN) | (with_reducible refine Kp.setCell ?_ (by first | (dsimp only; omega) | (simp; omega) | (simp; done) | (simp [size_ext_eq]; omega)) _)))).mono ?_); rintro e w2 ⟨s', rfl, hv', u, hu⟩; have hk2 : Kp wr w2 := (by rw [hu]; exact (by repeat (first | (with_reducible exact Kp.refl _) | (with_reducible assumption) | (with_reducible apply Kp.ext) | (with_reducible apply Kp.alloc) | (with_reducible apply Kp.drew) | (with_reducible apply Kp.drewN) | (with_reducible refine Kp.setCell ?_ (by first | (dsimp only; omega) | (simp; omega) | (simp; done) | (simp [size_ext_eq]; omega)) _)))); have hkp2 := hkp.trans hk2; obtain ⟨os, vs⟩ := sub_int Hva.out (absF_int hv') (by omega); rw [Hstep.out] at vs; have VS := Lib.hid vs; clear hu hv' vs) | (go_at_call 12; (first | (with_reducible refine (Ret.at_ext (abs_c _ _)).mono ?_) | (with_reducible refine (abs_c _ _).mono ?_)); rintro e w' ⟨rfl, u, rfl⟩))
      go_roundw
      case rel => exact ⟨k + 1, _, by omega, rfl, by go_num, VS.out, (by repeat (first | (with_reducible exact Kp.refl _) | (with_reducible assumption) | (with_reducible apply Kp.ext) | (with_reducible apply Kp.alloc) | (with_reducible apply Kp.drew) | (with_reducible apply Kp.drewN) | (with_reducible refine Kp.setCell ?_ (by first | (dsimp only; omega) | (simp; omega) | (simp; done) | (simp [size_ext_eq]; omega)) _)))⟩
      case measure => simp [intOf]; omega
    · obtain rfl : k = m := by omega
      obtain ⟨oq, vq⟩ := half_quo hv (by omega)
      have VQ := Lib.hid vq
      clear hv vq
      go_wp2_with fail
      go_ret
      exact ⟨_, rfl, VQ.out, _, ext_of (show Kp w _ from (by repeat (first | (with_reducible exact Kp.refl _) | (with_reducible assumption) | (with_reducible apply Kp.ext) | (with_reducible apply Kp.alloc) | (with_reducible apply Kp.drew) | (with_reducible apply Kp.drewN) | (with_reducible refine Kp.setCell ?_ (by first | (dsimp only; omega) | (simp; omega) | (simp; done) | (simp [size_ext_eq]; omega)) _))))⟩
end Go.Proofs.YtohidpmkoehmcaaGreatDoor
