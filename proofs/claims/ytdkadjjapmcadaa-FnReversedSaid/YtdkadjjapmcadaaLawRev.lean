/-
  The walk of laws.FnReversed.
-/
import Derived.Test.YtdkadjjapmcadaaSq
import Derived.Deep.RegionHeld3
import Derived.Deep.DrawnRows
namespace Go.Proofs.Ytdkadjjapmcadaa
open PubFl Go.RowKit

attribute [local go_sem] cell_ext frozen_ext ext_setCell cell_store size_ext_eq lt_p0 lt_p1 lt_p2 lt_p3 lt_p4 lt_p5 lt_p6 lt_p7 lt_p8 lt_p9 lt_p10 lt_p11 lt_p12 lt_p13 lt_p14 lt_p15 lt_p16 lt_p17 lt_p18 lt_p19 lt_p20 lt_p21 lt_p22 lt_p23 lt_p24 lt_p25 lt_p26 lt_p27 lt_p28 lt_p29 lt_p30 lt_p31 lt_p32 lt_q1 lt_q2 lt_q3 lt_q4 lt_q5 lt_q6 lt_q7 lt_q8 lt_q9 lt_q10 lt_q11 lt_q12 lt_q13 lt_q14 lt_q15 lt_q16 lt_q17 lt_q18 lt_q19 lt_q20 lt_q21 lt_q22 lt_q23 lt_q24 lt_q25 lt_q26 lt_q27 lt_q28 lt_q29 lt_q30 lt_q31 lt_q32 run_fop run_store_float
attribute [local go_sem high] cmp_eql cmp_neq cmp_lss cmp_leq cmp_gtr cmp_geq

theorem wrap_in (n : Int) (h0 : -9223372036854775808 ≤ n) (h1 : n ≤ 9223372036854775807) : IntKind.i64.wrap n = n := by
  rw [← wrap64_i64]
  unfold RowKit.wrap64
  omega
set_option maxRecDepth 20000 in
set_option maxHeartbeats 1000000 in
theorem reversed_walk (a : Option Addr) (cap : Nat) (ps : List (Nat × Nat)) (hmax : ps.length ≤ maxLen) (w : World) (hs : PtsIn w a ps) (hbits : Bits ps) :
    Calls Try.prog 3 #[.slice a ps.length cap] w (Ret w (.bool true)) := by
  go_enter Try.func3, Try.ntmps3
  by_cases hbig : 2147483647 < ps.length
  · have h1 : ((2147483647 : Int) < (ps.length : Int)) = True := eq_true (by omega)
    go_wp2_with fail
    go_ret
    exact Ret.mk rfl (by repeat (first | (with_reducible exact Kp.refl _) | (with_reducible assumption) | (with_reducible apply Kp.ext) | (with_reducible apply Kp.alloc) | (with_reducible apply Kp.drew) | (with_reducible apply Kp.drewN) | (with_reducible refine Kp.setCell ?_ (by first | (dsimp only; omega) | (simp; omega) | (simp; done) | (simp [size_ext_eq]; omega)) _)))
  have h1 : ((2147483647 : Int) < (ps.length : Int)) = False := eq_false (by omega)
  have hn : ps.length ≤ 2147483647 := by omega
  by_cases h300 : 300 < ps.length
  · have h2 : ((300 : Int) < (ps.length : Int)) = True := eq_true (by omega)
    go_wp2_with (first | (go_at_call 16; refine (square_c _).mono ?_; rintro e w1 ⟨v, u, rfl, rfl, hp⟩; obtain ⟨g, cap', rfl, hin1⟩ := sq5_in hp) | (go_at_call 15; refine (squareRev _ _ _ hin1).mono ?_; rintro e w2 ⟨v2, u2, rfl, rfl, hp2⟩; obtain ⟨g2, cap2, rfl, hin2⟩ := sq5r_in hp2) | (go_at_call 14; (first | (with_reducible refine (Ret.at_ext (squareRevClosed _ _ _ hin2)).mono ?_) | refine (squareRevClosed _ _ _ hin2).mono ?_); rintro e w' ⟨rfl, u, rfl⟩))
    go_ret
    exact Ret.mk rfl (by repeat (first | (with_reducible exact Kp.refl _) | (with_reducible assumption) | (with_reducible apply Kp.ext) | (with_reducible apply Kp.alloc) | (with_reducible apply Kp.drew) | (with_reducible apply Kp.drewN) | (with_reducible refine Kp.setCell ?_ (by first | (dsimp only; omega) | (simp; omega) | (simp; done) | (simp [size_ext_eq]; omega)) _)))
  have h2 : ((300 : Int) < (ps.length : Int)) = False := eq_false (by omega)
  go_wp2_with (go_at_call 15; refine (reversed_c _ _ _ hn _ hs).mono ?_; rintro e w1 ⟨v, u, rfl, hu, hp⟩)
  have hk1 : Kp w w1 := by rw [hu]; exact (by repeat (first | (with_reducible exact Kp.refl _) | (with_reducible assumption) | (with_reducible apply Kp.ext) | (with_reducible apply Kp.alloc) | (with_reducible apply Kp.drew) | (with_reducible apply Kp.drewN) | (with_reducible refine Kp.setCell ?_ (by first | (dsimp only; omega) | (simp; omega) | (simp; done) | (simp [size_ext_eq]; omega)) _)))
  rw [← hu]
  clear hu
  have hv : ∃ a' cap', v = .slice a' ps.length cap' ∧ PtsIn w1 a' ps.reverse := by
    by_cases h0 : 0 < ps.length
    · obtain ⟨g, cap', rfl, hg1, hg2, _, _, hpt⟩ := hp.form (by simpa using h0)
      exact ⟨_, cap', by simp, .inr ⟨g, 0, rfl, hg2, hpt⟩⟩
    · obtain rfl : ps = [] := List.eq_nil_of_length_eq_zero (by omega)
      obtain ⟨a', cap', rfl⟩ := hp.empty
      exact ⟨_, _, rfl, .inl rfl⟩
  obtain ⟨a', cap', rfl, hin'⟩ := hv
  clear hp
  go_wp2_with fail
  go_loopw [19] (fun i wr => ∃ k : Nat, k ≤ ps.length ∧ i = .int .i64 k ∧ Kp w1 wr) (fun i _ => ps.length - (intOf i).toNat)
  case atStart => exact ⟨0, Nat.zero_le _, rfl, (by repeat (first | (with_reducible exact Kp.refl _) | (with_reducible assumption) | (with_reducible apply Kp.ext) | (with_reducible apply Kp.alloc) | (with_reducible apply Kp.drew) | (with_reducible apply Kp.drewN) | (with_reducible refine Kp.setCell ?_ (by first | (dsimp only; omega) | (simp; omega) | (simp; done) | (simp [size_ext_eq]; omega)) _)))⟩
  case round =>
    obtain ⟨k, hkn, rfl, hkp⟩ := hrel
    by_cases hlt : k < ps.length
    · obtain ⟨l, hl⟩ : ∃ l : Nat, ps.length = l + 1 := ⟨ps.length - 1, by omega⟩
      obtain ⟨j, hj⟩ : ∃ j : Nat, j + k = l := ⟨l - k, by omega⟩
      have hjs : ((l : Int) - (k : Int)) = (j : Int) := by omega
      have hsum : ((ps.length : Int) - 1) = (l : Int) := by omega
      obtain ⟨b, off, rfl, hb, hpt⟩ := hs.cells (by omega)
      obtain ⟨b', off', rfl, hb', hpt'⟩ := hin'.cells (by simp; omega)
      obtain ⟨e0, e1⟩ := hpt.kp hb (hk1.trans hkp) k hlt
      obtain ⟨f0, f1⟩ := hpt'.kp hb' hkp j (by simp; omega)
      have hsame : ps.reverse[j]'(by simp; omega) = ps[k]'hlt := by
        rw [List.getElem_reverse]; congr 1; omega
      rw [hsame] at f0 f1
      obtain ⟨⟨px, py⟩, hq⟩ : ∃ q, ps[k]'hlt = q := ⟨_, rfl⟩
      rw [hq] at e0 e1 f0 f1
      have hbk : b < wr.heap.size := Nat.lt_of_lt_of_le hb (hk1.trans hkp).size
      have hbk' : b' < wr.heap.size := Nat.lt_of_lt_of_le hb' hkp.size
      have hw0 : IntKind.i64.wrap ((ps.length : Int) - 1) = (l : Int) := by rw [wrap_in _ (by omega) (by omega)]; omega
      have hw1 : IntKind.i64.wrap ((l : Int) - (k : Int)) = (j : Int) := by rw [hjs, wrap_in _ (by omega) (by omega)]
      have hw2 : IntKind.i64.wrap (l : Int) = (l : Int) := wrap_in _ (by omega) (by omega)
      have hw3 : IntKind.i64.wrap (j : Int) = (j : Int) := wrap_in _ (by omega) (by omega)
      have hj0 : (0 : Int) ≤ (j : Int) := by omega
      have hjl : (j : Int) < (ps.length : Int) := by omega
      have hjl' : j < ps.length := by omega
      have hkl : (k : Int) < (ps.length : Int) := by omega
      clear hq hsame hl
      go_wp2_with fail
      go_region_held3 (fun w' => w'.cell? ⟨wr.heap.size, 0, none⟩ = some (.float .f64 px) ∧ w'.cell? ⟨wr.heap.size, 1, none⟩ = some (.float .f64 py) ∧ w'.cell? ⟨b', off' + j * 2, none⟩ = some (.float .f64 px) ∧ w'.cell? ⟨b', off' + j * 2 + 1, none⟩ = some (.float .f64 py)) (simp [go_sem, *])
        ((go_at_call 17; refine (samePt_c _ _ px py _ (by first | (simp; done) | (simp; omega)) (by first | (simp; done) | (simp; omega)) (by simp [go_sem]) (by simp [go_sem]) (by simp [go_sem]) (by simp [go_sem])).mono ?_; rintro e w' ⟨rfl, u, rfl⟩))
      all_goals rename_i hHeld; clear hHeld
      all_goals go_wp2_with fail
      · go_roundw
        case rel => exact ⟨k + 1, by omega, by go_num, (by repeat (first | (with_reducible exact Kp.refl _) | (with_reducible assumption) | (with_reducible apply Kp.ext) | (with_reducible apply Kp.alloc) | (with_reducible apply Kp.drew) | (with_reducible apply Kp.drewN) | (with_reducible refine Kp.setCell ?_ (by first | (dsimp only; omega) | (simp; omega) | (simp; done) | (simp [size_ext_eq]; omega)) _)))⟩
        case measure => simp [intOf]; omega
      · go_roundw
        case rel => exact ⟨k + 1, by omega, by go_num, (by repeat (first | (with_reducible exact Kp.refl _) | (with_reducible assumption) | (with_reducible apply Kp.ext) | (with_reducible apply Kp.alloc) | (with_reducible apply Kp.drew) | (with_reducible apply Kp.drewN) | (with_reducible refine Kp.setCell ?_ (by first | (dsimp only; omega) | (simp; omega) | (simp; done) | (simp [size_ext_eq]; omega)) _)))⟩
        case measure => simp [intOf]; omega
    · obtain rfl : k = ps.length := by omega
      have hk2 : Kp w wr := hk1.trans hkp
      clear hkp hk1
      go_wp2_with (first | (go_at_call 16; refine (square_c _).mono ?_; rintro e w3 ⟨v, u, rfl, hu3, hp⟩; have hk3 := hk2.trans (show Kp wr w3 by rw [hu3]; exact (Kp.refl _).ext _); clear hu3; obtain ⟨g, cap3, rfl, hin1⟩ := sq5_in hp) | (go_at_call 15; refine (squareRev _ _ _ hin1).mono ?_; rintro e w4 ⟨v2, u2, rfl, hu4, hp2⟩; have hk4 := hk3.trans (show Kp w3 w4 by rw [hu4]; exact (Kp.refl _).ext _); clear hu4; obtain ⟨g2, cap2, rfl, hin2⟩ := sq5r_in hp2) | (go_at_call 14; (first | (with_reducible refine (Ret.at_ext (squareRevClosed _ _ _ hin2)).mono ?_) | refine (squareRevClosed _ _ _ hin2).mono ?_); rintro e w' ⟨rfl, u, rfl⟩))
      go_ret
      exact Ret.mk rfl (by repeat (first | (with_reducible exact Kp.refl _) | (with_reducible assumption) | (with_reducible apply Kp.ext) | (with_reducible apply Kp.alloc) | (with_reducible apply Kp.drew) | (with_reducible apply Kp.drewN) | (with_reducible refine Kp.setCell ?_ (by first | (dsimp only; omega) | (simp; omega) | (simp; done) | (simp [size_ext_eq]; omega)) _)))
end Go.Proofs.Ytdkadjjapmcadaa
