/-
  Plain arithmetic: twice the area of a ring, with and without an offset, and the other way round.
  spec.Doubled, spec.Turn, and Ring.Orientation on whole numbers.
-/
import Derived.Test.YtohidpmkoehmcaaGreatDoorMG3
set_option linter.all false
namespace PubFl

/-- the sum of the first n -/
def sumTo (t : Nat → Int) : Nat → Int
  | 0 => 0
  | n + 1 => sumTo t n + t n
theorem sumTo_congr {t s : Nat → Int} : ∀ {n : Nat}, (∀ i, i < n → t i = s i) → sumTo t n = sumTo s n
  | 0, _ => rfl
  | n + 1, h => by
    unfold sumTo
    rw [sumTo_congr (n := n) fun i hi => h i (by omega), h n (by omega)]
theorem sumTo_front (t : Nat → Int) : ∀ n, sumTo t (n + 1) = t 0 + sumTo (fun i => t (i + 1)) n
  | 0 => by simp [sumTo]
  | n + 1 => by
    have := sumTo_front t n
    unfold sumTo
    rw [this]
    show _ = t 0 + (sumTo (fun i => t (i + 1)) n + t (n + 1))
    omega
theorem sumTo_rev (t : Nat → Int) : ∀ n, sumTo (fun i => t (n - 1 - i)) n = sumTo t n
  | 0 => rfl
  | n + 1 => by
    rw [sumTo_front]
    have h : sumTo (fun i => t (n + 1 - 1 - (i + 1))) n = sumTo (fun i => t (n - 1 - i)) n := sumTo_congr fun i hi => by
      show t (n + 1 - 1 - (i + 1)) = t (n - 1 - i)
      congr 1; omega
    rw [h, sumTo_rev t n]
    show t (n + 1 - 1 - 0) + sumTo t n = sumTo t n + t n
    rw [show n + 1 - 1 - 0 = n by omega]; omega
theorem sumTo_neg (t : Nat → Int) : ∀ n, sumTo (fun i => - t i) n = - sumTo t n
  | 0 => rfl
  | n + 1 => by
    unfold sumTo; rw [sumTo_neg t n]; omega
theorem sumTo_abs {t : Nat → Int} {m : Int} : ∀ {n : Nat}, (∀ i, i < n → -m ≤ t i ∧ t i ≤ m) → -(n * m) ≤ sumTo t n ∧ sumTo t n ≤ n * m
  | 0, _ => by simp [sumTo]
  | n + 1, h => by
    have h1 := sumTo_abs (n := n) fun i hi => h i (by omega)
    have h2 := h n (by omega)
    have e : ((n + 1 : Nat) : Int) * m = n * m + m := by rw [Int.natCast_add, Int.add_mul]; simp
    rw [e]
    unfold sumTo
    omega

/-- one step of the sum -/
def crossT (x y : Nat → Int) (i : Nat) : Int := x i * y (i + 1) - x (i + 1) * y i
def offT (x y : Nat → Int) (i : Nat) : Int := (x (i + 1) - x 0) * (y (i + 2) - y 0) - (x (i + 2) - x 0) * (y (i + 1) - y 0)

theorem off_step (x y : Nat → Int) : ∀ n, sumTo (offT x y) n = sumTo (crossT x y) (n + 1) - crossT x y 0 - x 0 * (y (n + 1) - y 1) + y 0 * (x (n + 1) - x 1)
  | 0 => by simp [sumTo]
  | n + 1 => by
    have h := off_step x y n
    have e1 : sumTo (offT x y) (n + 1) = sumTo (offT x y) n + offT x y n := rfl
    have e2 : sumTo (crossT x y) (n + 1 + 1) = sumTo (crossT x y) (n + 1) + crossT x y (n + 1) := rfl
    rw [e1, e2, h]
    unfold offT crossT
    simp only [Int.sub_mul, Int.mul_sub, Int.mul_comm (y 0), show n + 1 + 1 = n + 2 from rfl]
    omega
/-- a closed ring: the offset makes no odds -/
theorem off_closed (x y : Nat → Int) (n : Nat) (hx : x (n + 1) = x 0) (hy : y (n + 1) = y 0) : sumTo (offT x y) n = sumTo (crossT x y) (n + 1) := by
  rw [off_step, hx, hy]
  unfold crossT
  simp only [Int.mul_sub, Int.sub_mul, Int.mul_comm (y 0), Nat.zero_add]
  omega
/-- the other way round -/
theorem cross_rev (x y : Nat → Int) (m : Nat) : sumTo (crossT (fun i => x (m - i)) (fun i => y (m - i))) m = - sumTo (crossT x y) m := by
  rw [← sumTo_rev, ← sumTo_neg]
  refine sumTo_congr fun i hi => ?_
  unfold crossT
  simp only [show m - (m - 1 - i) = i + 1 by omega, show m - (m - 1 - i + 1) = i by omega]
  have := Int.mul_comm (y i) (x (i + 1))
  have := Int.mul_comm (y (i + 1)) (x i)
  omega
end PubFl

set_option linter.all false
namespace Go.Proofs.YtohidpmkoehmcaaGreatDoor
open PubFl Go.RowKit

attribute [local go_sem] cell_ext frozen_ext ext_setCell cell_store size_ext_eq lt_p0 lt_p1 lt_p2 lt_p3 lt_p4 lt_p5 lt_p6 lt_p7 lt_p8 lt_p9 lt_p10 lt_p11 lt_p12 lt_p13 lt_p14 lt_p15 lt_p16 lt_p17 lt_p18 lt_p19 lt_p20 lt_p21 lt_p22 lt_p23 lt_p24 lt_p25 lt_p26 lt_p27 lt_p28 lt_p29 lt_p30 lt_p31 lt_p32 lt_q1 lt_q2 lt_q3 lt_q4 lt_q5 lt_q6 lt_q7 lt_q8 lt_q9 lt_q10 lt_q11 lt_q12 lt_q13 lt_q14 lt_q15 lt_q16 lt_q17 lt_q18 lt_q19 lt_q20 lt_q21 lt_q22 lt_q23 lt_q24 lt_q25 lt_q26 lt_q27 lt_q28 lt_q29 lt_q30 lt_q31 lt_q32 run_fop run_store_float
attribute [local go_sem high] cmp_eql cmp_neq cmp_lss cmp_leq cmp_gtr cmp_geq

/-- the points are whole numbers -/
def IntPts (ps : List (Nat × Nat)) (x y : Nat → Int) : Prop := ∀ (i : Nat) (h : i < ps.length), IsV (ps[i]'h).1 (x i : Rat) ∧ IsV (ps[i]'h).2 (y i : Rat) ∧ (-1000 ≤ x i ∧ x i ≤ 1000) ∧ (-1000 ≤ y i ∧ y i ≤ 1000)
theorem mul_le_sq {a b m : Int} (ha : -m ≤ a ∧ a ≤ m) (hb : -m ≤ b ∧ b ≤ m) : -(m * m) ≤ a * b ∧ a * b ≤ m * m := by
  have hm : 0 ≤ m := by omega
  have h1 : (a * b).natAbs ≤ m.natAbs * m.natAbs := by
    rw [Int.natAbs_mul]; exact Nat.mul_le_mul (by omega) (by omega)
  have h2 : ((m.natAbs * m.natAbs : Nat) : Int) = m * m := by
    rw [Int.natCast_mul]; simp [Int.natAbs_of_nonneg hm]
  omega
theorem IntPts.cross {ps : List (Nat × Nat)} {x y : Nat → Int} (h : IntPts ps x y) {i : Nat} (hi : i + 1 < ps.length) : (-1000000 ≤ x i * y (i + 1) ∧ x i * y (i + 1) ≤ 1000000) ∧ (-1000000 ≤ x (i + 1) * y i ∧ x (i + 1) * y i ≤ 1000000) := by
  obtain ⟨_, _, a, b⟩ := h i (by omega)
  obtain ⟨_, _, c, d⟩ := h (i + 1) hi
  have h1 := mul_le_sq a d
  have h2 := mul_le_sq c b
  omega

set_option maxRecDepth 20000 in
set_option maxHeartbeats 1000000 in
theorem doubled_c (a : Option Addr) (cap : Nat) (ps : List (Nat × Nat)) (hn : ps.length ≤ 1000) (hpos : 0 < ps.length) (w : World) (hs : PtsIn w a ps) (x y : Nat → Int) (hi : IntPts ps x y) :
    Calls Tryz.prog 13 #[.slice a ps.length cap] w (fun e w' => ∃ s, e = .returned (.float .f64 s) ∧ IsV s (sumTo (crossT x y) (ps.length - 1) : Int) ∧ ∃ u, w' = ext w u) := by
  obtain ⟨b, off, rfl, hb, hpt⟩ := hs.cells (by omega)
  go_enter Tryz.func13, Tryz.ntmps13
  go_wp2_with fail
  go_loopw [3, 4] (fun s3 s4 wr => ∃ (k s : Nat), k + 1 ≤ ps.length ∧ s3 = .float .f64 s ∧ s4 = .int .i64 ((k : Int) + 1) ∧ IsV s (sumTo (crossT x y) k : Int) ∧ Kp w wr) (fun _ s4 _ => ps.length - (intOf s4).toNat)
  case atStart => exact ⟨0, 0, by omega, rfl, rfl, zero_isV, (by repeat (first | (with_reducible exact Kp.refl _) | (with_reducible assumption) | (with_reducible apply Kp.ext) | (with_reducible apply Kp.alloc) | (with_reducible apply Kp.drew) | (with_reducible apply Kp.drewN) | (with_reducible refine Kp.setCell ?_ (by first | (dsimp only; omega) | (simp; omega) | (simp; done) | (simp [size_ext_eq]; omega)) _)))⟩
  case round =>
    obtain ⟨k, s, hkn, rfl, rfl, hsv, hkp⟩ := hrel
    by_cases hlt : k + 1 < ps.length
    · obtain ⟨e0, e1⟩ := hpt.kp hb hkp k (by omega)
      obtain ⟨f0, f1⟩ := hpt.kp hb hkp (k + 1) hlt
      obtain ⟨v0, v1, _, _⟩ := hi k (by omega)
      obtain ⟨v2, v3, _, _⟩ := hi (k + 1) hlt
      obtain ⟨c1, c2⟩ := hi.cross hlt
      have hsum := sumTo_abs (t := crossT x y) (m := 2000000) (n := k) fun i hik => by
        obtain ⟨d1, d2⟩ := hi.cross (i := i) (by omega)
        unfold crossT; omega
      have hstep : sumTo (crossT x y) (k + 1) = sumTo (crossT x y) k + (x k * y (k + 1) - x (k + 1) * y k) := rfl
      obtain ⟨m1, m2⟩ := mul_int v0 v3 (by omega)
      obtain ⟨m3, m4⟩ := mul_int v2 v1 (by omega)
      obtain ⟨m5, m6⟩ := sub_int m2 m4 (by omega)
      obtain ⟨m7, m8⟩ := add_int hsv m6 (by have : (k : Int) ≤ 1000 := by omega
                                            omega)
      rw [← hstep] at m8
      obtain ⟨⟨px, py⟩, hq⟩ : ∃ q, ps[k]'(by omega) = q := ⟨_, rfl⟩
      obtain ⟨⟨qx, qy⟩, hq'⟩ : ∃ q, ps[k + 1]'hlt = q := ⟨_, rfl⟩
      rw [hq] at e0 e1 m1 m3 m5 m7 m8
      rw [hq'] at f0 f1 m1 m3 m5 m7 m8
      have hbk : b < wr.heap.size := Nat.lt_of_lt_of_le hb hkp.size
      have hw2 : IntKind.i64.wrap (k : Int) = (k : Int) := wrap_in _ (by omega) (by omega)
      have hk0 : (0 : Int) ≤ (k : Int) := by omega
      have hk1 : (k : Int) < (ps.length : Int) := by omega
      have hk2 : (0 : Int) ≤ (k : Int) + 1 := by omega
      have hk3 : ((k : Int) + 1 < (ps.length : Int)) = True := eq_true (by omega)
      have hk4 : ((k : Int) + 1).toNat = k + 1 := by omega
      clear hq hq' hsum hstep c1 c2 v0 v1 v2 v3 m2 m4 m6
      go_wp2_with fail
      first | (with_reducible refine wp_region_ext_lit2 ?_ ?_ ?_) | refine wp_region_ext_lit ?_ ?_ ?_
      kernel_rfl
      kernel_rfl
      repeat (go_big_quiet_step (fail))
      refine wpQuiet_nil ?_
      rintro _ ⟨u, rfl⟩
      go_wp2_with fail
      go_roundw
      case rel => exact ⟨k + 1, _, by omega, rfl, by go_num, m8, (by repeat (first | (with_reducible exact Kp.refl _) | (with_reducible assumption) | (with_reducible apply Kp.ext) | (with_reducible apply Kp.alloc) | (with_reducible apply Kp.drew) | (with_reducible apply Kp.drewN) | (with_reducible refine Kp.setCell ?_ (by first | (dsimp only; omega) | (simp; omega) | (simp; done) | (simp [size_ext_eq]; omega)) _)))⟩
      case measure => simp [intOf]; omega
    · have hk3 : ((k : Int) + 1 < (ps.length : Int)) = False := eq_false (by omega)
      have hk : k = ps.length - 1 := by omega
      rw [hk] at hsv
      go_wp2_with fail
      go_ret
      exact ⟨s, rfl, hsv, _, ext_of hkp⟩

/-- the sign of a whole number -/
def sgn (n : Int) : Int := if 0 < n then 1 else if n < 0 then -1 else 0
theorem sign_c (s : Nat) (n : Int) (h : IsV s (n : Rat)) (w : World) : Calls Tryz.prog 32 #[.float .f64 s] w (Ret w (.int .i64 (sgn n))) := by
  have g1 : gtF s 0 = decide (0 < n) := gtF_int h zero_isV
  have g2 : ltF s 0 = decide (n < 0) := ltF_int h zero_isV
  unfold sgn
  go_enter Tryz.func32, Tryz.ntmps32
  by_cases h1 : 0 < n
  · rw [decide_eq_true h1] at g1
    rw [if_pos h1]
    go_wp2_with fail
    go_ret
    exact Ret.mk rfl (by repeat (first | (with_reducible exact Kp.refl _) | (with_reducible assumption) | (with_reducible apply Kp.ext) | (with_reducible apply Kp.alloc) | (with_reducible apply Kp.drew) | (with_reducible apply Kp.drewN) | (with_reducible refine Kp.setCell ?_ (by first | (dsimp only; omega) | (simp; omega) | (simp; done) | (simp [size_ext_eq]; omega)) _)))
  · rw [decide_eq_false h1] at g1
    rw [if_neg h1]
    by_cases h2 : n < 0
    · rw [decide_eq_true h2] at g2
      rw [if_pos h2]
      go_wp2_with fail
      go_ret
      exact Ret.mk rfl (by repeat (first | (with_reducible exact Kp.refl _) | (with_reducible assumption) | (with_reducible apply Kp.ext) | (with_reducible apply Kp.alloc) | (with_reducible apply Kp.drew) | (with_reducible apply Kp.drewN) | (with_reducible refine Kp.setCell ?_ (by first | (dsimp only; omega) | (simp; omega) | (simp; done) | (simp [size_ext_eq]; omega)) _)))
    · rw [decide_eq_false h2] at g2
      rw [if_neg h2]
      go_wp2_with fail
      go_ret
      exact Ret.mk rfl (by repeat (first | (with_reducible exact Kp.refl _) | (with_reducible assumption) | (with_reducible apply Kp.ext) | (with_reducible apply Kp.alloc) | (with_reducible apply Kp.drew) | (with_reducible apply Kp.drewN) | (with_reducible refine Kp.setCell ?_ (by first | (dsimp only; omega) | (simp; omega) | (simp; done) | (simp [size_ext_eq]; omega)) _)))
theorem turn_c (a : Option Addr) (cap : Nat) (ps : List (Nat × Nat)) (hn : ps.length ≤ 1000) (hpos : 0 < ps.length) (w : World) (hs : PtsIn w a ps) (x y : Nat → Int) (hi : IntPts ps x y) :
    Calls Tryz.prog 21 #[.slice a ps.length cap] w (Ret w (.int .i64 (sgn (sumTo (crossT x y) (ps.length - 1))))) := by
  go_enter Tryz.func21, Tryz.ntmps21
  go_wp2_with (go_at_call 13; refine (doubled_c _ _ _ hn hpos _ hs x y hi).mono ?_; rintro e w' ⟨s, rfl, hsv, u, rfl⟩)
  go_wp2_with (go_at_call 32; (first | (with_reducible refine (Ret.at_ext (sign_c _ _ hsv _)).mono ?_) | refine (sign_c _ _ hsv _).mono ?_); rintro e w' ⟨rfl, u, rfl⟩)
  go_ret
  exact Ret.mk rfl (by repeat (first | (with_reducible exact Kp.refl _) | (with_reducible assumption) | (with_reducible apply Kp.ext) | (with_reducible apply Kp.alloc) | (with_reducible apply Kp.drew) | (with_reducible apply Kp.drewN) | (with_reducible refine Kp.setCell ?_ (by first | (dsimp only; omega) | (simp; omega) | (simp; done) | (simp [size_ext_eq]; omega)) _)))
end Go.Proofs.YtohidpmkoehmcaaGreatDoor
