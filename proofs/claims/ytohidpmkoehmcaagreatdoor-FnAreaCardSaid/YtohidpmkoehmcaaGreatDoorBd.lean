/-
  Floats that are finite and not greater than a power of two: what holds of sums, products and quotients of such.
-/
import Derived.Test.YtohidpmkoehmcaaGreatDoorFl
set_option linter.all false
namespace PubFl
open Ieee

/-- a power of two -/
def pw (n : Nat) : Rat := ((2 ^ n : Nat) : Rat)
theorem pw_succ (n : Nat) : pw (n + 1) = 2 * pw n := by
  unfold pw
  rw [Nat.pow_succ, Rat.natCast_mul]
  have : ((2 : Nat) : Rat) = 2 := rfl
  rw [this]; grind
theorem pw_add (n m : Nat) : pw (n + m) = pw n * pw m := by
  unfold pw
  rw [Nat.pow_add, Rat.natCast_mul]
theorem pw_one (n : Nat) : 1 ≤ pw n := by
  have h : 1 ≤ 2 ^ n := Nat.pow_pos (by decide)
  have := Rat.natCast_le_natCast.2 h
  exact this
theorem pw_mono {n m : Nat} (h : n ≤ m) : pw n ≤ pw m := Rat.natCast_le_natCast.2 (Nat.pow_le_pow_right (by decide) h)
theorem pw_huge {n : Nat} (h : n ≤ 1000) : pw n ≤ huge := by
  have e : pw 1000 = huge := by rw [huge_eq]; exact (zpow_nat 1000).symm
  rw [← e]; exact pw_mono h

/-- a finite float, not greater than this power of two -/
def Bd (x n : Nat) : Prop := ∃ q, IsV x q ∧ Mag q (pw n)
theorem Bd.mono {x n m : Nat} (h : Bd x n) (hm : n ≤ m) : Bd x m := by
  obtain ⟨q, v, a, b⟩ := h
  have := pw_mono hm
  exact ⟨q, v, by grind, by grind⟩
theorem Bd.of {x n : Nat} {q : Rat} (h : IsV x q) (a : -pw n ≤ q) (b : q ≤ pw n) : Bd x n := ⟨q, h, a, b⟩
theorem Bd.int {x n : Nat} {a : Int} (h : IsV x a) (ha : a.natAbs ≤ 2 ^ n) : Bd x n := by
  have h1 : -(((2 ^ n : Nat) : Int)) ≤ a := by omega
  have h2 : a ≤ ((2 ^ n : Nat) : Int) := by omega
  have k1 := Rat.intCast_le_intCast.2 h1
  have k2 := Rat.intCast_le_intCast.2 h2
  rw [Rat.intCast_neg, Rat.intCast_natCast] at k1
  rw [Rat.intCast_natCast] at k2
  exact ⟨_, h, k1, k2⟩
theorem eps_q : eps ≤ 1 / 8 := by decide +kernel
theorem eps_p : 0 ≤ eps := by decide +kernel
theorem tiny_q : tiny ≤ 1 / 8 := by decide +kernel
theorem within_bd {r v M : Rat} (h : Within r v (M * eps + tiny)) (hv : Mag v M) (hM : 1 ≤ M) : Mag r (2 * M) := by
  obtain ⟨h1, h2⟩ := h
  obtain ⟨a, b⟩ := hv
  have e := eps_q
  have t := tiny_q
  have : M * eps ≤ M * (1 / 8) := Rat.mul_le_mul_of_nonneg_left e (by grind)
  constructor <;> grind
theorem within_bd2 {r v M : Rat} (h : Within r v (2 * (M * eps) + 2 * tiny)) (hv : Mag v M) (hM : 1 ≤ M) : Mag r (2 * M) := by
  obtain ⟨h1, h2⟩ := h
  obtain ⟨a, b⟩ := hv
  have e := eps_q
  have t := tiny_q
  have : M * eps ≤ M * (1 / 8) := Rat.mul_le_mul_of_nonneg_left e (by grind)
  constructor <;> grind
theorem bd_add {x y n : Nat} (hx : Bd x n) (hy : Bd y n) (hn : n ≤ 990) : FOk .add x y ∧ Bd (fop .add x y) (n + 2) := by
  obtain ⟨p, vx, a1, a2⟩ := hx
  obtain ⟨q, vy, b1, b2⟩ := hy
  have hm : Mag (p + q) (pw (n + 1)) := by rw [pw_succ]; constructor <;> grind
  obtain ⟨r, o, v, hw⟩ := add_near vx vy hm (pw_huge (by omega))
  have := within_bd hw hm (pw_one _)
  rw [← pw_succ] at this
  exact ⟨o, r, v, this⟩
theorem bd_sub {x y n : Nat} (hx : Bd x n) (hy : Bd y n) (hn : n ≤ 990) : FOk .sub x y ∧ Bd (fop .sub x y) (n + 2) := by
  obtain ⟨p, vx, a1, a2⟩ := hx
  obtain ⟨q, vy, b1, b2⟩ := hy
  have hm : Mag (p - q) (pw (n + 1)) := by rw [pw_succ]; constructor <;> grind
  obtain ⟨r, o, v, hw⟩ := sub_near vx vy hm (pw_huge (by omega))
  have := within_bd hw hm (pw_one _)
  rw [← pw_succ] at this
  exact ⟨o, r, v, this⟩
theorem mag_mul2 {p q M N : Rat} (hp : Mag p M) (hq : Mag q N) : Mag (p * q) (M * N) := by
  obtain ⟨a1, a2⟩ := hp
  obtain ⟨b1, b2⟩ := hq
  have h1 := Rat.mul_nonneg (show 0 ≤ M - p by grind) (show 0 ≤ N + q by grind)
  have h2 := Rat.mul_nonneg (show 0 ≤ M - p by grind) (show 0 ≤ N - q by grind)
  have h3 := Rat.mul_nonneg (show 0 ≤ M + p by grind) (show 0 ≤ N + q by grind)
  have h4 := Rat.mul_nonneg (show 0 ≤ M + p by grind) (show 0 ≤ N - q by grind)
  constructor <;> grind
theorem bd_mul {x y n m : Nat} (hx : Bd x n) (hy : Bd y m) (hn : n + m ≤ 990) : FOk .mul x y ∧ Bd (fop .mul x y) (n + m + 1) := by
  obtain ⟨p, vx, hp⟩ := hx
  obtain ⟨q, vy, hq⟩ := hy
  have hm : Mag (p * q) (pw (n + m)) := by rw [pw_add]; exact mag_mul2 hp hq
  obtain ⟨r, o, v, hw⟩ := mul_near vx vy hm (pw_huge (by omega))
  have := within_bd hw hm (pw_one _)
  rw [← pw_succ] at this
  exact ⟨o, r, v, this⟩
/-- not too near nought -/
def Far (q : Rat) : Prop := q ≤ -(1 / 2) ∨ 1 / 2 ≤ q
theorem Far.ne {q : Rat} (h : Far q) : q ≠ 0 := by unfold Far at h; rintro rfl; rcases h with h | h <;> exact absurd h (by decide +kernel)
theorem mag_div {p q M : Rat} (hp : Mag p M) (hM : 0 ≤ M) (hq : Far q) : Mag (p / q) (2 * M) := by
  have hne := hq.ne
  have e : p / q * q = p := by grind
  obtain ⟨a1, a2⟩ := hp
  generalize p / q = t at *
  rcases hq with h | h
  · have k := Rat.mul_nonneg hM (show 0 ≤ -(1 / 2) - q by grind)
    constructor
    · rcases Std.lt_trichotomy t (-(2 * M)) with g | g | g
      · have := Rat.mul_nonneg (show 0 ≤ -(2 * M) - t by grind) (show 0 ≤ -(1 / 2) - q by grind)
        grind
      · grind
      · grind
    · rcases Std.lt_trichotomy t (2 * M) with g | g | g
      · grind
      · grind
      · have := Rat.mul_nonneg (show 0 ≤ t - 2 * M by grind) (show 0 ≤ -(1 / 2) - q by grind)
        grind
  · have k := Rat.mul_nonneg hM (show 0 ≤ q - 1 / 2 by grind)
    constructor
    · rcases Std.lt_trichotomy t (-(2 * M)) with g | g | g
      · have := Rat.mul_nonneg (show 0 ≤ -(2 * M) - t by grind) (show 0 ≤ q - 1 / 2 by grind)
        grind
      · grind
      · grind
    · rcases Std.lt_trichotomy t (2 * M) with g | g | g
      · grind
      · grind
      · have := Rat.mul_nonneg (show 0 ≤ t - 2 * M by grind) (show 0 ≤ q - 1 / 2 by grind)
        grind
theorem bd_quo {x y n : Nat} {q : Rat} (hx : Bd x n) (hy : IsV y q) (hq : Far q) (hn : n ≤ 990) : FOk .quo x y ∧ Bd (fop .quo x y) (n + 2) := by
  obtain ⟨p, vx, hp⟩ := hx
  have h1 := pw_one n
  have hm : Mag (p / q) (pw (n + 1)) := by rw [pw_succ]; exact mag_div hp (by grind) hq
  obtain ⟨r, o, v, hw⟩ := quo_near vx hy hq.ne hm (by rw [← pw_succ]; exact pw_huge (by omega))
  have := within_bd2 hw hm (pw_one _)
  rw [← pw_succ] at this
  exact ⟨o, r, v, this⟩
end PubFl
