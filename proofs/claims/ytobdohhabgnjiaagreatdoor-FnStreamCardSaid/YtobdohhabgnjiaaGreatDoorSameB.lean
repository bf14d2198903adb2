/-
  spec.SameBytes of longer rows.
-/
import Derived.Test.YtobdohhabgnjiaaGreatDoorMForm
set_option linter.all false
namespace Go.Proofs.YtobdohhabgnjiaaGreatDoor
open PubFl Go.RowKit

attribute [local go_sem] cell_ext frozen_ext ext_setCell cell_store size_ext_eq lt_p0 lt_p1 lt_p2 lt_p3 lt_p4 lt_p5 lt_p6 lt_p7 lt_p8 lt_p9 lt_p10 lt_p11 lt_p12 lt_p13 lt_p14 lt_p15 lt_p16 lt_p17 lt_p18 lt_p19 lt_p20 lt_p21 lt_p22 lt_p23 lt_p24 lt_p25 lt_p26 lt_p27 lt_p28 lt_p29 lt_p30 lt_p31 lt_p32 lt_q1 lt_q2 lt_q3 lt_q4 lt_q5 lt_q6 lt_q7 lt_q8 lt_q9 lt_q10 lt_q11 lt_q12 lt_q13 lt_q14 lt_q15 lt_q16 lt_q17 lt_q18 lt_q19 lt_q20 lt_q21 lt_q22 lt_q23 lt_q24 lt_q25 lt_q26 lt_q27 lt_q28 lt_q29 lt_q30 lt_q31 lt_q32 run_fop run_store_float
attribute [local go_sem high] cmp_eql cmp_neq cmp_lss cmp_leq cmp_gtr cmp_geq

set_option maxRecDepth 20000 in
set_option maxHeartbeats 1000000 in
theorem sameBytes2_c (g off cap g' off' cap' n : Nat) (bs : List Nat) (hl : n = bs.length) (hn : n ≤ 1000000000000) (w : World) (h1 : g < w.heap.size) (h2 : g' < w.heap.size) (ha : BytesAt w g off bs) (hb : BytesAt w g' off' bs) :
    Calls Tryz.prog 9 #[.slice (some ⟨g, off, none⟩) n cap, .slice (some ⟨g', off', none⟩) n cap'] w (Ret w (.bool true)) := by
  have Hl := Lib.hid hl
  have Ha := Lib.hid ha
  have Hb := Lib.hid hb
  clear hl ha hb
  go_enter Tryz.func9, Tryz.ntmps9
  go_wp2_with fail
  go_loopw [13] (fun s13 wr => ∃ k : Nat, k ≤ n ∧ s13 = .int .i64 k ∧ Kp w wr) (fun s13 _ => n - (intOf s13).toNat)
  case atStart => exact ⟨0, Nat.zero_le _, rfl, (by repeat (first | (with_reducible exact Kp.refl _) | (with_reducible assumption) | (with_reducible apply Kp.ext) | (with_reducible apply Kp.alloc) | (with_reducible apply Kp.drew) | (with_reducible apply Kp.drewN) | (with_reducible refine Kp.setCell ?_ (by first | (dsimp only; omega) | (simp; omega) | (simp; done) | (simp [size_ext_eq]; omega)) _)))⟩
  case round =>
    obtain ⟨k, hkn, rfl, hkp⟩ := hrel
    by_cases hlt : k < n
    · have hk2 : k < bs.length := by have := Hl.out; omega
      have c1 := Ha.out.kp h1 hkp k hk2
      have c2 := Hb.out.kp h2 hkp k hk2
      have g1 := Nat.lt_of_lt_of_le h1 hkp.size
      have g2 := Nat.lt_of_lt_of_le h2 hkp.size
      have hk1 : (k : Int) < (n : Int) := by omega
      generalize bs[k]'hk2 = x at *
      go_wp2_with fail
      first | (with_reducible refine wp_region_ext_lit2 ?_ ?_ ?_) | refine wp_region_ext_lit ?_ ?_ ?_
      kernel_rfl
      kernel_rfl
      repeat (go_big_quiet_step (fail))
      refine wpQuiet_nil ?_
      rintro _ ⟨u, rfl⟩
      go_wp2_with fail
      go_roundw
      case rel => exact ⟨k + 1, by omega, by go_num, (by repeat (first | (with_reducible exact Kp.refl _) | (with_reducible assumption) | (with_reducible apply Kp.ext) | (with_reducible apply Kp.alloc) | (with_reducible apply Kp.drew) | (with_reducible apply Kp.drewN) | (with_reducible refine Kp.setCell ?_ (by first | (dsimp only; omega) | (simp; omega) | (simp; done) | (simp [size_ext_eq]; omega)) _)))⟩
      case measure => simp [intOf]; omega
    · obtain rfl : k = n := by omega
      go_wp2_with fail
      go_ret
      exact Ret.mk rfl (by repeat (first | (with_reducible exact Kp.refl _) | (with_reducible assumption) | (with_reducible apply Kp.ext) | (with_reducible apply Kp.alloc) | (with_reducible apply Kp.drew) | (with_reducible apply Kp.drewN) | (with_reducible refine Kp.setCell ?_ (by first | (dsimp only; omega) | (simp; omega) | (simp; done) | (simp [size_ext_eq]; omega)) _)))
end Go.Proofs.YtobdohhabgnjiaaGreatDoor
