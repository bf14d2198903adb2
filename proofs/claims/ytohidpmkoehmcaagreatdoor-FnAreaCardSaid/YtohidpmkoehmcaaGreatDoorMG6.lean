/-
  Steps of lineStringCentroidDist: each float is finite, and the length is nought or not near it.
  Floats of polygonCentroidArea: halves of whole numbers, and bounds.
-/
import Derived.Test.YtohidpmkoehmcaaGreatDoorBd
import Derived.Test.YtohidpmkoehmcaaGreatDoorMG5
set_option linter.all false
namespace PubFl
open Ieee

/-- a length: nought, or at least so much (ever so little less with each sum) -/
def LenV (x k : Nat) : Prop := ∃ q, IsV x q ∧ (q = 0 ∨ 7 / 8 - (k : Rat) * (1 / 1000) ≤ q) ∧ 0 ≤ q ∧ q ≤ pw (16 + 2 * k)
theorem LenV.bd {x k : Nat} (h : LenV x k) : Bd x (16 + 2 * k) := by
  obtain ⟨q, v, _, h0, h1⟩ := h
  have := pw_one (16 + 2 * k)
  exact ⟨q, v, by grind, h1⟩
theorem k_small {k : Nat} (h : k ≤ 200) : (k : Rat) * (1 / 1000) ≤ 1 / 5 := by
  have : (k : Rat) ≤ ((200 : Nat) : Rat) := Rat.natCast_le_natCast.2 h
  have e : ((200 : Nat) : Rat) = 200 := rfl
  rw [e] at this
  grind
theorem k_nn (k : Nat) : (0 : Rat) ≤ k := by
  have : ((0 : Nat) : Rat) ≤ (k : Rat) := Rat.natCast_le_natCast.2 (Nat.zero_le _)
  exact this
theorem k_succ (k : Nat) : ((k + 1 : Nat) : Rat) = (k : Rat) + 1 := by
  have := Rat.natCast_add k 1
  rw [this]; rfl
theorem LenV.cases {x k : Nat} (h : LenV x k) (hk : k ≤ 200) : (eqF x 0 = true) ∨ (eqF x 0 = false ∧ ∃ q, IsV x q ∧ Far q ∧ q ≤ pw (16 + 2 * k)) := by
  obtain ⟨q, v, hq, h0, h1⟩ := h
  have z := zero_isV
  have e : ((0 : Int) : Rat) = 0 := rfl
  have g := eqF_isV v z
  rw [e] at g
  have := k_small hk
  rcases hq with hq | hq
  · left; rw [g, decide_eq_true hq]
  · right
    refine ⟨by rw [g, decide_eq_false (by grind)], q, v, .inr (by grind), h1⟩
theorem eps_s : eps ≤ 1 / 1000000 := by decide +kernel
theorem tiny_s : tiny ≤ 1 / 1000000 := by decide +kernel
/-- one more length -/
theorem LenV.add {x y k : Nat} (hx : LenV x k) (hy : LenV y 0) (hk : k ≤ 100) : FOk .add x y ∧ LenV (fop .add x y) (k + 1) := by
  obtain ⟨p, vx, hp, p0, p1⟩ := hx
  obtain ⟨q, vy, hq, q0, q1⟩ := hy
  by_cases hz : p = 0 ∧ q = 0
  · obtain ⟨rfl, rfl⟩ := hz
    have e : ((0 : Int) : Rat) = 0 := rfl
    obtain ⟨o, v⟩ := add_int (a := 0) (b := 0) (by rw [e]; exact vx) (by rw [e]; exact vy) (by decide)
    have e2 : ((0 + 0 : Int) : Rat) = 0 := rfl
    rw [e2] at v
    have := pw_one (16 + 2 * (k + 1))
    exact ⟨o, 0, v, .inl rfl, by decide +kernel, by grind⟩
  have hk0 := k_small (k := k) (by omega)
  have hkn := k_nn k
  have hlow : 7 / 8 - (k : Rat) * (1 / 1000) ≤ p + q := by
    have e0 : ((0 : Nat) : Rat) = 0 := rfl
    rw [e0] at hq
    rcases hp with hp | hp
    · rcases hq with hq | hq
      · exact absurd ⟨hp, hq⟩ hz
      · grind
    · grind
  have hle : q ≤ pw (16 + 2 * k) := by
    have := pw_mono (n := 16 + 2 * 0) (m := 16 + 2 * k) (by omega)
    grind
  have hM : Mag (p + q) (p + q) := ⟨by grind, by grind⟩
  have hh : p + q ≤ pw (16 + 2 * k + 1) := by rw [pw_succ]; grind
  have hpq : p + q ≤ huge := by
    have := pw_huge (n := 16 + 2 * k + 1) (by omega)
    grind
  obtain ⟨r, o, v, w1, w2⟩ := add_near vx vy hM hpq
  have es := eps_s
  have ts := tiny_s
  have hs0 : 0 ≤ p + q := by grind
  have m1 : (p + q) * eps ≤ (p + q) * (1 / 1000000) := Rat.mul_le_mul_of_nonneg_left es hs0
  have ep := eps_p
  have k1 := k_succ k
  have pp := pw_one (16 + 2 * k + 1)
  have p2 : pw (16 + 2 * (k + 1)) = 2 * pw (16 + 2 * k + 1) := by rw [← pw_succ]; congr 1
  refine ⟨o, r, v, .inr ?_, ?_, ?_⟩
  · rw [k1]
    generalize p + q = s at *
    have : s - (s * (1 / 1000000) + 1 / 1000000) ≤ r := by grind
    have h1 : (7 / 8 - (k : Rat) * (1 / 1000)) * (1 - 1 / 1000000) ≤ s * (1 - 1 / 1000000) := Rat.mul_le_mul_of_nonneg_right hlow (by decide +kernel)
    grind
  · grind
  · rw [p2]; grind
/-- the distance of two points with whole coordinates -/
theorem dist_len {ax ay bx by' : Nat} {a b c d : Int} (h1 : IsV ax a) (h2 : IsV ay b) (h3 : IsV bx c) (h4 : IsV by' d) (b1 : -2000 ≤ a ∧ a ≤ 2000) (b2 : -2000 ≤ b ∧ b ≤ 2000) (b3 : -2000 ≤ c ∧ c ≤ 2000) (b4 : -2000 ≤ d ∧ d ≤ 2000) :
    Go.Proofs.YtohidpmkoehmcaaGreatDoor.DsqOk ax ay bx by' ∧ SOk (Go.Proofs.YtohidpmkoehmcaaGreatDoor.dsqF ax ay bx by') ∧ LenV (sqrtF (Go.Proofs.YtohidpmkoehmcaaGreatDoor.dsqF ax ay bx by')) 0 := by
  obtain ⟨ok, v⟩ := Go.Proofs.YtohidpmkoehmcaaGreatDoor.dsq_int h1 h2 h3 h4 (by omega) (by omega) (by omega) (by omega)
  have s1 := Go.Proofs.YtohidpmkoehmcaaGreatDoor.sq_nn (a - c)
  have s2 := Go.Proofs.YtohidpmkoehmcaaGreatDoor.sq_nn (b - d)
  have q1 : ((a - c) * (a - c)).natAbs ≤ 4000 * 4000 := by rw [Int.natAbs_mul]; exact Nat.mul_le_mul (by omega) (by omega)
  have q2 : ((b - d) * (b - d)).natAbs ≤ 4000 * 4000 := by rw [Int.natAbs_mul]; exact Nat.mul_le_mul (by omega) (by omega)
  obtain ⟨D, hD⟩ : ∃ D : Int, (a - c) * (a - c) + (b - d) * (b - d) = D := ⟨_, rfl⟩
  rw [hD] at v
  have hD0 : 0 ≤ D := by omega
  have hD1 : D ≤ 32000000 := by omega
  have d0 : (0 : Rat) ≤ (D : Rat) := Go.Proofs.YtohidpmkoehmcaaGreatDoor.int_le (a := 0) hD0
  have d1 : (D : Rat) ≤ 32000000 := Go.Proofs.YtohidpmkoehmcaaGreatDoor.int_le (b := 32000000) hD1
  have hhuge : (D : Rat) ≤ huge := by
    have h := pw_huge (n := 25) (by omega)
    have e : (32000000 : Rat) ≤ pw 25 := by decide +kernel
    grind
  obtain ⟨so, r, vr, r0, w1, w2⟩ := sqrtF_near v d0 hhuge
  have es := eps_s
  have ep := eps_p
  have m1 : (D : Rat) * eps ≤ (D : Rat) * (1 / 1000000) := Rat.mul_le_mul_of_nonneg_left es d0
  refine ⟨ok, so, r, vr, ?_, r0, ?_⟩
  · by_cases hz : D = 0
    · left
      subst hz
      have e : ((0 : Int) : Rat) = 0 := rfl
      rw [e] at w2
      have h2 : r * r ≤ 0 := by grind
      rcases Std.lt_trichotomy r 0 with g | g | g
      · grind
      · exact g
      · have := Rat.mul_pos g g
        grind
    · right
      have hD2 : 1 ≤ D := by omega
      have d2 : (1 : Rat) ≤ (D : Rat) := Go.Proofs.YtohidpmkoehmcaaGreatDoor.int_le (a := 1) hD2
      have e0 : ((0 : Nat) : Rat) = 0 := rfl
      rw [e0]
      rcases Std.lt_trichotomy r (7 / 8) with g | g | g
      · exfalso
        have h3 := Rat.mul_nonneg (show 0 ≤ 7 / 8 - r by grind) (show 0 ≤ 7 / 8 + r by grind)
        grind
      · grind
      · grind
  · have e : pw (16 + 2 * 0) = 65536 := by decide +kernel
    rw [e]
    rcases Std.lt_trichotomy r 65536 with g | g | g
    · grind
    · grind
    · have h3 := Rat.mul_nonneg (show 0 ≤ r - 65536 by grind) (show 0 ≤ r + 65536 by grind)
      grind
theorem LenV.mono {x k m : Nat} (h : LenV x k) (hm : k ≤ m) : LenV x m := by
  obtain ⟨q, v, hq, h0, h1⟩ := h
  have := pw_mono (n := 16 + 2 * k) (m := 16 + 2 * m) (by omega)
  have km : (k : Rat) ≤ (m : Rat) := Rat.natCast_le_natCast.2 hm
  exact ⟨q, v, by rcases hq with hq | hq; exact .inl hq; right; grind, h0, by grind⟩
theorem LenV.zero (k : Nat) : LenV 0 k := by
  have := pw_one (16 + 2 * k)
  exact ⟨0, zero_isV, .inl rfl, by decide +kernel, by grind⟩
theorem two_far : IsV 4611686018427387904 (((2 : Int)) : Rat) ∧ Far (((2 : Int)) : Rat) := by
  refine ⟨?_, .inr (by decide +kernel)⟩
  rw [show (4611686018427387904 : Nat) = fl 2 by kernel_rfl]; exact fl_isV (by decide)
/-- one more term of a middle -/
theorem mid_step {p q d c n : Nat} {P Q : Int} (hp : IsV p P) (hq : IsV q Q) (bp : -2000 ≤ P ∧ P ≤ 2000) (bq : -2000 ≤ Q ∧ Q ≤ 2000) (hd : LenV d 0) (hc : Bd c n) (h32 : 32 ≤ n) (hn : n ≤ 900) :
    FOk .add p q ∧ FOk .quo (fop .add p q) 4611686018427387904 ∧ FOk .mul (fop .quo (fop .add p q) 4611686018427387904) d ∧ FOk .add c (fop .mul (fop .quo (fop .add p q) 4611686018427387904) d) ∧ Bd (fop .add c (fop .mul (fop .quo (fop .add p q) 4611686018427387904) d)) (n + 2) := by
  obtain ⟨o1, v1⟩ := bd_add (n := 11) (Bd.int hp (by omega)) (Bd.int hq (by omega)) (by omega)
  obtain ⟨o2, v2⟩ := bd_quo v1 two_far.1 two_far.2 (by omega)
  obtain ⟨o3, v3⟩ := bd_mul v2 hd.bd (by omega)
  obtain ⟨o4, v4⟩ := bd_add hc (v3.mono (by omega)) (by omega)
  exact ⟨o1, o2, o3, o4, v4⟩
/-- the end of a middle -/
theorem mid_end {c d o n m : Nat} {q : Rat} (hc : Bd c n) (hd : IsV d q) (hq : Far q) (ho : Bd o m) (hm : m ≤ n) (hn : n ≤ 900) :
    FOk .quo c d ∧ FOk .add (fop .quo c d) o ∧ Bd (fop .add (fop .quo c d) o) (n + 4) := by
  obtain ⟨o1, v1⟩ := bd_quo hc hd hq (by omega)
  obtain ⟨o2, v2⟩ := bd_add v1 (ho.mono (by omega)) (by omega)
  exact ⟨o1, o2, v2⟩
end PubFl

set_option linter.all false
namespace PubFl
open Ieee Go.Proofs.YtohidpmkoehmcaaGreatDoor

/-- half of a whole number -/
def half (a : Int) : Rat := (a : Rat) * (2 : Rat) ^ (-(1 : Int))
theorem half_eq (a : Int) : half a = (a : Rat) * (1 / 2) := by
  unfold half
  have h : (2 : Rat) ^ (-(1 : Int)) = 1 / 2 := by decide +kernel
  rw [h]
theorem half_add (a b : Int) : half a + half b = half (a + b) := by rw [half_eq, half_eq, half_eq, Rat.intCast_add]; grind
theorem half_sub (a b : Int) : half a - half b = half (a - b) := by rw [half_eq, half_eq, half_eq, Rat.intCast_sub]; grind
theorem half_few {a : Int} (h : a.natAbs < 2 ^ 53) : Few (half a) := few_part 1 (by decide) h
theorem add_half {x y : Nat} {a b : Int} (hx : IsV x (half a)) (hy : IsV y (half b)) (h : (a + b).natAbs < 2 ^ 53) : FOk .add x y ∧ IsV (fop .add x y) (half (a + b)) := by
  have := add_few hx hy (by rw [half_add]; exact half_few h)
  rwa [half_add] at this
theorem sub_half {x y : Nat} {a b : Int} (hx : IsV x (half a)) (hy : IsV y (half b)) (h : (a - b).natAbs < 2 ^ 53) : FOk .sub x y ∧ IsV (fop .sub x y) (half (a - b)) := by
  have := sub_few hx hy (by rw [half_sub]; exact half_few h)
  rwa [half_sub] at this
theorem half_zero : IsV 0 (half 0) := by
  have e : half 0 = ((0 : Int) : Rat) := by rw [half_eq]; decide +kernel
  rw [e]; exact zero_isV
theorem half_far {a : Int} (h : a ≠ 0) : Far (half a) := by
  rw [half_eq]
  rcases (show a ≤ -1 ∨ 1 ≤ a by omega) with c | c
  · left
    have := int_le (b := -1) c
    have e : ((-1 : Int) : Rat) = -1 := rfl
    rw [e] at this
    grind
  · right
    have := int_le (a := 1) c
    have e : ((1 : Int) : Rat) = 1 := rfl
    rw [e] at this
    grind
theorem half_eqF {x : Nat} {a : Int} (h : IsV x (half a)) : eqF x 0 = decide (a = 0) := by
  have e : half 0 = ((0 : Int) : Rat) := by rw [half_eq]; decide +kernel
  rw [eqF_isV h half_zero]
  refine decide_eq_decide.2 ⟨fun k => ?_, fun k => by rw [k]⟩
  rw [half_eq, half_eq] at k
  have e0 : ((0 : Int) : Rat) = 0 := rfl
  rw [e0] at k
  have : (a : Rat) = ((0 : Int) : Rat) := by rw [e0]; grind
  exact Rat.intCast_inj.1 this
theorem half_bd {x n : Nat} {a : Int} (h : IsV x (half a)) (ha : a.natAbs ≤ 2 ^ n) : Bd x n := by
  have h1 : -(((2 ^ n : Nat) : Int)) ≤ a := by omega
  have h2 : a ≤ ((2 ^ n : Nat) : Int) := by omega
  have k1 := Rat.intCast_le_intCast.2 h1
  have k2 := Rat.intCast_le_intCast.2 h2
  rw [Rat.intCast_neg, Rat.intCast_natCast] at k1
  rw [Rat.intCast_natCast] at k2
  have p := pw_one n
  have e : pw n = ((2 ^ n : Nat) : Rat) := rfl
  rw [← e] at k1 k2
  refine ⟨_, h, ?_, ?_⟩ <;> (rw [half_eq]; grind)
theorem half_abs {x : Nat} {a : Int} (h : IsV x (half a)) : IsV (absF x) (half (a.natAbs : Int)) := by
  have g := absF_isV h
  have e : (if half a < 0 then -half a else half a) = half (a.natAbs : Int) := by
    by_cases c : a < 0
    · have n : (a.natAbs : Int) = -a := by omega
      have k := int_le (b := -1) (show a ≤ -1 by omega)
      have e1 : ((-1 : Int) : Rat) = -1 := rfl
      rw [e1] at k
      rw [n, half_eq, half_eq, Rat.intCast_neg, if_pos (by grind)]
      grind
    · have n : (a.natAbs : Int) = a := by omega
      have k := int_le (a := 0) (show 0 ≤ a by omega)
      have e1 : ((0 : Int) : Rat) = 0 := rfl
      rw [e1] at k
      rw [n, half_eq, if_neg (by grind)]
  rwa [e] at g
/-- six times the half of a whole number -/
theorem six_half {s : Nat} {A : Int} (hs : IsV s A) (bA : -8000000000 ≤ A ∧ A ≤ 8000000000) : IsV (fop .mul 4618441417868443648 (fop .quo s 4611686018427387904)) ((3 * A : Int) : Rat) := by
  have two : IsV 4611686018427387904 ((2 : Int) : Rat) := two_far.1
  have six : IsV 4618441417868443648 ((6 : Int) : Rat) := by
    rw [show (4618441417868443648 : Nat) = fl 6 by kernel_rfl]; exact fl_isV (by decide)
  have hf : (2 : Rat) ^ (-(1 : Int)) = 1 / 2 := by decide +kernel
  obtain ⟨o1, v1⟩ := quo_few (v := (A : Rat) * (2 : Rat) ^ (-((1 : Nat) : Int))) hs two (by decide) (by
    have h2 : ((2 : Int) : Rat) = 2 := rfl
    have h3 : (2 : Rat) ^ (-((1 : Nat) : Int)) = 1 / 2 := hf
    rw [h2, h3]; grind) (few_part 1 (by decide) (by omega))
  have v1' : IsV (fop .quo s 4611686018427387904) ((A : Rat) * (2 : Rat) ^ (-(1 : Int))) := v1
  have e3 : ((6 : Int) : Rat) * ((A : Rat) * (2 : Rat) ^ (-(1 : Int))) = ((3 * A : Int) : Rat) := by
    rw [hf, Rat.intCast_mul]
    have h6 : ((6 : Int) : Rat) = 6 := rfl
    have h3 : ((3 : Int) : Rat) = 3 := rfl
    rw [h6, h3]; grind
  obtain ⟨o2, v2⟩ := mul_few six v1' (by rw [e3]; exact few_int (by omega))
  rwa [e3] at v2
theorem int_far {a : Int} (h : a ≠ 0) : Far (a : Rat) := by
  rcases (show a ≤ -1 ∨ 1 ≤ a by omega) with c | c
  · left
    have := int_le (b := -1) c
    have e : ((-1 : Int) : Rat) = -1 := rfl
    rw [e] at this
    grind
  · right
    have := int_le (a := 1) c
    have e : ((1 : Int) : Rat) = 1 := rfl
    rw [e] at this
    grind
theorem mid_bd {A MX MY OX OY : Int} {ox oy cx cy : Nat} (h : AreaMid A MX MY ox oy cx cy) (hA : A ≠ 0) (bA : -8000000000 ≤ A ∧ A ≤ 8000000000) (bX : -32000000000000 ≤ MX ∧ MX ≤ 32000000000000) (bY : -32000000000000 ≤ MY ∧ MY ≤ 32000000000000) (ho : IsV ox OX) (hp : IsV oy OY) (bO : -1000 ≤ OX ∧ OX ≤ 1000) (bP : -1000 ≤ OY ∧ OY ≤ 1000) : Bd cx 60 ∧ Bd cy 60 := by
  obtain ⟨s, mx, my, hs, hx, hy, rfl, rfl⟩ := h hA
  have hv := six_half hs bA
  have hf : Far ((3 * A : Int) : Rat) := int_far (by omega)
  obtain ⟨_, v1⟩ := bd_quo (n := 50) (Bd.int hx (by omega)) hv hf (by omega)
  obtain ⟨_, v2⟩ := bd_add (n := 52) v1 (Bd.int ho (by omega)) (by omega)
  obtain ⟨_, v3⟩ := bd_quo (n := 50) (Bd.int hy (by omega)) hv hf (by omega)
  obtain ⟨_, v4⟩ := bd_add (n := 52) v3 (Bd.int hp (by omega)) (by omega)
  exact ⟨v2.mono (by omega), v4.mono (by omega)⟩
end PubFl
