/-
  Plain facts on binary floats: rounding, exact results of whole numbers, near results of quotients and roots. No program in sight.
-/
import Ieee.Arith
import Derived.Laws.FloatBits
import Derived.Laws.FloatArith
import Derived.Laws.BitsAllLaws
set_option linter.all false
namespace PubFl
open Ieee

theorem two_pos : (0 : Rat) < 2 := by decide
theorem two_ne : (2 : Rat) ≠ 0 := by decide

/-- the number of a sign, a magnitude and a place -/
def rat (neg : Bool) (m : Nat) (e : Int) : Rat := (if neg then -1 else 1) * (m : Rat) * (2 : Rat) ^ e

theorem zpow_pos (e : Int) : (0 : Rat) < (2 : Rat) ^ e := Rat.zpow_pos two_pos
theorem zpow_add (a b : Int) : (2 : Rat) ^ (a + b) = (2 : Rat) ^ a * (2 : Rat) ^ b := Rat.zpow_add two_ne a b
theorem zpow_nat (n : Nat) : (2 : Rat) ^ (n : Int) = ((2 ^ n : Nat) : Rat) := by
  rw [Rat.zpow_natCast, Rat.natCast_pow]; rfl

/-- a float is a finite one with this value -/
def IsV (x : Nat) (q : Rat) : Prop := x < 2 ^ 64 ∧ ∃ s m e, double.read x = .number s m e ∧ rat s m e = q

theorem isV_unique {x : Nat} {p q : Rat} (hp : IsV x p) (hq : IsV x q) : p = q := by
  obtain ⟨_, s, m, e, h, rfl⟩ := hp
  obtain ⟨_, t, n, j, h', rfl⟩ := hq
  rw [h] at h'; cases h'; rfl

theorem rat_shift (s : Bool) (m k : Nat) (e : Int) : rat s (m <<< k) (e - k) = rat s m e := by
  unfold rat
  rw [Nat.shiftLeft_eq, Rat.natCast_mul, ← zpow_nat]
  have : (2 : Rat) ^ e = (2 : Rat) ^ (k : Int) * (2 : Rat) ^ (e - k) := by rw [← zpow_add]; congr 1; omega
  rw [this]; grind

theorem signed_rat (s : Bool) (m k : Nat) (e : Int) : ((signed s m k : Int) : Rat) * (2 : Rat) ^ (e - k) = rat s m e := by
  rw [← rat_shift s m k e]
  unfold rat signed
  split
  · rw [Rat.intCast_neg, Rat.intCast_natCast]; grind
  · rw [Rat.intCast_natCast]; grind


theorem read_sum {s t : Bool} {m n : Nat} {i j : Int} {d : Datum} (h : Datum.sum (.number s m i) (.number t n j) = some d) :
    ∃ u k b, d = .number u k b ∧ rat u k b = rat s m i + rat t n j := by
  simp only [Datum.sum, Option.some.injEq] at h
  subst h
  refine ⟨_, _, _, rfl, ?_⟩
  have h1 : (((i - min i j).toNat : Nat) : Int) = i - min i j := by omega
  have h2 : (((j - min i j).toNat : Nat) : Int) = j - min i j := by omega
  have e1 := signed_rat s m (i - min i j).toNat i
  have e2 := signed_rat t n (j - min i j).toNat j
  rw [h1, show i - (i - min i j) = min i j by omega] at e1
  rw [h2, show j - (j - min i j) = min i j by omega] at e2
  rw [← e1, ← e2]
  generalize signed s m (i - min i j).toNat = a
  generalize signed t n (j - min i j).toNat = b
  generalize min i j = c
  unfold rat
  have hab : (a : Rat) * 2 ^ c + (b : Rat) * 2 ^ c = ((a + b : Int) : Rat) * 2 ^ c := by rw [Rat.intCast_add]; grind
  rw [hab]
  congr 1
  by_cases h0 : a + b = 0
  · simp [h0]
  · by_cases h : a + b < 0
    · simp only [h0, h, if_false, decide_true, if_true]
      have : ((a + b).natAbs : Int) = -(a + b) := by omega
      rw [← Rat.intCast_natCast, this, Rat.intCast_neg]; grind
    · simp only [h0, h, if_false, decide_false]
      have : ((a + b).natAbs : Int) = (a + b) := by omega
      rw [← Rat.intCast_natCast, this]; simp

theorem read_product {s t : Bool} {m n : Nat} {i j : Int} :
    ∃ u k b, Datum.product (.number s m i) (.number t n j) = some (.number u k b) ∧ rat u k b = rat s m i * rat t n j := by
  refine ⟨_, _, _, rfl, ?_⟩
  unfold rat
  rw [zpow_add, Rat.natCast_mul]
  cases s <;> cases t <;> simp <;> grind

theorem order_rat {s t : Bool} {m n : Nat} {i j : Int} :
    Datum.order (.number s m i) (.number t n j) = some (if rat s m i < rat t n j then .lt else if rat s m i = rat t n j then .eq else .gt) := by
  simp only [Datum.order, Option.some.injEq]
  have h1 : (((i - min i j).toNat : Nat) : Int) = i - min i j := by omega
  have h2 : (((j - min i j).toNat : Nat) : Int) = j - min i j := by omega
  have e1 := signed_rat s m (i - min i j).toNat i
  have e2 := signed_rat t n (j - min i j).toNat j
  rw [h1, show i - (i - min i j) = min i j by omega] at e1
  rw [h2, show j - (j - min i j) = min i j by omega] at e2
  rw [← e1, ← e2]
  generalize signed s m (i - min i j).toNat = a
  generalize signed t n (j - min i j).toNat = b
  have hc := zpow_pos (min i j)
  generalize (2 : Rat) ^ (min i j) = c at hc
  have l : (a : Rat) * c < b * c ↔ a < b := by rw [Rat.mul_lt_mul_right hc]; exact Rat.intCast_lt_intCast
  have q : (a : Rat) * c = b * c ↔ a = b := by
    constructor
    · intro h
      have : (a : Rat) = b := by
        have : ((a : Rat) - b) * c = 0 := by grind
        rcases Rat.mul_eq_zero.1 this with h | h
        · grind
        · grind
      exact Rat.intCast_inj.1 this
    · intro h; rw [h]
  simp only [l, q, compare, compareOfLessAndEq]

theorem order_isV {x y : Nat} {p q : Rat} (hx : IsV x p) (hy : IsV y q) : double.order x y = some (if p < q then .lt else if p = q then .eq else .gt) := by
  obtain ⟨_, s, m, e, h, rfl⟩ := hx
  obtain ⟨_, t, n, j, h', rfl⟩ := hy
  unfold Format.order
  rw [h, h', order_rat]

theorem isV_lt {x y : Nat} {p q : Rat} (hx : IsV x p) (hy : IsV y q) : (double.order x y == some .lt) = decide (p < q) := by
  rw [order_isV hx hy]
  by_cases h : p < q
  · simp [h]
  · by_cases h' : p = q <;> simp [h, h']
theorem isV_eq {x y : Nat} {p q : Rat} (hx : IsV x p) (hy : IsV y q) : (double.order x y == some .eq) = decide (p = q) := by
  rw [order_isV hx hy]
  by_cases h : p < q
  · have : p ≠ q := by grind
    simp [h, this]
  · by_cases h' : p = q <;> simp [h, h']
theorem isV_gt {x y : Nat} {p q : Rat} (hx : IsV x p) (hy : IsV y q) : (double.order x y == some .gt) = decide (q < p) := by
  rw [order_isV hx hy]
  by_cases h : p < q
  · have : ¬ q < p := by grind
    simp [h, this]
  · by_cases h' : p = q
    · simp [h']
    · have : q < p := by grind
      simp [h, h', this]


theorem cut_spec (neg : Bool) (N d : Nat) (hN : N ≠ 0) :
    2 * (Toward.even.cut neg N d * 2 ^ d) ≤ 2 * N + 2 ^ d ∧ 2 * N ≤ 2 * (Toward.even.cut neg N d * 2 ^ d) + 2 ^ d ∧
    (2 ^ d ∣ N → Toward.even.cut neg N d * 2 ^ d = N) ∧ N / 2 ^ d ≤ Toward.even.cut neg N d ∧ Toward.even.cut neg N d ≤ N / 2 ^ d + 1 := by
  unfold Toward.cut
  simp only [Nat.one_shiftLeft]
  have hlo := Nat.log2_self_le hN
  have hhi := Nat.lt_log2_self (n := N)
  by_cases h : d ≤ N.log2 + 2
  · rw [Nat.min_eq_left h]
    have hp : 0 < 2 ^ d := Nat.two_pow_pos d
    generalize 2 ^ d = g at *
    have e := Nat.div_add_mod N g
    have hr := Nat.mod_lt N hp
    generalize hq : N / g = q at *
    generalize hr' : N % g = r at *
    have e1 : q * g = g * q := Nat.mul_comm _ _
    have e2 : (q + 1) * g = g * q + g := by rw [Nat.add_mul, e1]; omega
    by_cases hb : (decide (g < 2 * r) || g == 2 * r && q % 2 == 1) = true
    · rw [hb]
      have hge : g ≤ 2 * r := by
        simp at hb; omega
      simp only [Bool.toNat_true]
      rw [e2]
      refine ⟨by omega, by omega, ?_, by omega, by omega⟩
      intro hd
      have : r = 0 := by rw [← hr']; exact Nat.mod_eq_zero_of_dvd hd
      omega
    · have hb' : (decide (g < 2 * r) || g == 2 * r && q % 2 == 1) = false := by simpa using hb
      rw [hb']
      have hge : 2 * r ≤ g := by
        simp at hb'; omega
      simp only [Bool.toNat_false, Nat.add_zero]
      rw [e1]
      refine ⟨by omega, by omega, ?_, by omega, by omega⟩
      intro hd
      have : r = 0 := by rw [← hr']; exact Nat.mod_eq_zero_of_dvd hd
      omega
  · rw [Nat.min_eq_right (by omega)]
    have h4 : 2 ^ (N.log2 + 2) = 2 * 2 ^ (N.log2 + 1) := by rw [Nat.pow_succ 2 (N.log2 + 1)]; omega
    have hd : 2 ^ (N.log2 + 2) ≤ 2 ^ d := Nat.pow_le_pow_right (by omega) (by omega)
    have hlt : N < 2 ^ (N.log2 + 2) := by omega
    have hlt' : N < 2 ^ d := by omega
    rw [Nat.div_eq_of_lt hlt, Nat.mod_eq_of_lt hlt, Nat.div_eq_of_lt hlt']
    have hb : (decide (2 ^ (N.log2 + 2) < 2 * N) || 2 ^ (N.log2 + 2) == 2 * N && 0 % 2 == 1) = false := by
      simp; omega
    rw [hb]
    simp only [Bool.toNat_false]
    refine ⟨by omega, by omega, ?_, by omega, by omega⟩
    intro hd'
    have := Nat.le_of_dvd (by omega) hd'
    omega

/-- the last place that is kept, and the digits that are kept -/
def lastOf (mag : Nat) (place : Int) : Int := max (place + mag.log2 - 52) (-1074)
def keptOf (neg : Bool) (mag : Nat) (place : Int) : Nat :=
  Toward.even.cut neg (mag <<< (place - lastOf mag place).toNat) (lastOf mag place - place).toNat

theorem nearest_eq (neg : Bool) (mag : Nat) (place : Int) (h : mag ≠ 0) :
    double.nearest neg mag place = double.word neg (min ((lastOf mag place + 1074).toNat * 2 ^ 52 + keptOf neg mag place) double.infRung) := by
  unfold Format.nearest
  rw [if_neg h]
  rfl

theorem log2_shift (mag u : Nat) (h : mag ≠ 0) : (mag <<< u).log2 = mag.log2 + u := by
  have h1 := Nat.log2_self_le h
  have h2 := Nat.lt_log2_self (n := mag)
  have hp : 0 < 2 ^ u := Nat.two_pow_pos u
  rw [Nat.shiftLeft_eq]
  have hne : mag * 2 ^ u ≠ 0 := Nat.mul_ne_zero h (by omega)
  rw [Nat.log2_eq_iff hne]
  refine ⟨?_, ?_⟩
  · rw [Nat.pow_add]; exact Nat.mul_le_mul_right _ h1
  · rw [show mag.log2 + u + 1 = (mag.log2 + 1) + u by omega, Nat.pow_add]; exact Nat.mul_lt_mul_of_pos_right h2 hp

theorem kept_bounds (neg : Bool) (mag : Nat) (place : Int) (h : mag ≠ 0) :
    keptOf neg mag place ≤ 2 ^ 53 ∧ (lastOf mag place = -1074 ∨ 2 ^ 52 ≤ keptOf neg mag place) := by
  have hlo := Nat.log2_self_le h
  have hhi := Nat.lt_log2_self (n := mag)
  have hl : lastOf mag place = -1074 ∧ place + mag.log2 - 52 ≤ -1074 ∨ lastOf mag place = place + mag.log2 - 52 ∧ -1074 ≤ place + mag.log2 - 52 := by
    unfold lastOf; omega
  unfold keptOf
  generalize hL : lastOf mag place = last at *
  by_cases hp : last ≤ place
  · have hd : (last - place).toNat = 0 := by omega
    have hne : mag <<< (place - last).toNat ≠ 0 := by
      rw [Nat.shiftLeft_eq]; exact Nat.mul_ne_zero h (by have := Nat.two_pow_pos (place - last).toNat; omega)
    obtain ⟨_, _, _, c4, c5⟩ := cut_spec neg _ (last - place).toNat hne
    have c3 : Toward.even.cut neg (mag <<< (place - last).toNat) (last - place).toNat = mag <<< (place - last).toNat := by
      obtain ⟨_, _, c3, _⟩ := cut_spec neg _ (last - place).toNat hne
      rw [hd] at c3 ⊢
      simpa using c3
    rw [c3]
    have b1 := Nat.lt_log2_self (n := mag <<< (place - last).toNat)
    have b2 := Nat.log2_self_le hne
    rw [log2_shift _ _ h] at b1 b2
    constructor
    · have : 2 ^ (mag.log2 + (place - last).toNat + 1) ≤ 2 ^ 53 := Nat.pow_le_pow_right (by omega) (by omega)
      omega
    · rcases hl with hl | hl
      · left; omega
      · right
        have : 2 ^ 52 ≤ 2 ^ (mag.log2 + (place - last).toNat) := Nat.pow_le_pow_right (by omega) (by omega)
        omega
  · have hu : (place - last).toNat = 0 := by omega
    rw [hu, Nat.shiftLeft_zero]
    obtain ⟨_, _, _, c4, c5⟩ := cut_spec neg mag (last - place).toNat h
    have hp2 : 0 < 2 ^ (last - place).toNat := Nat.two_pow_pos _
    constructor
    · have : mag < 2 ^ 53 * 2 ^ (last - place).toNat := by
        rw [← Nat.pow_add]
        exact Nat.lt_of_lt_of_le hhi (Nat.pow_le_pow_right (by omega) (by omega))
      have := (Nat.div_lt_iff_lt_mul hp2).2 this
      omega
    · rcases hl with hl | hl
      · left; omega
      · right
        have : 2 ^ 52 * 2 ^ (last - place).toNat ≤ mag := by
          rw [← Nat.pow_add]
          exact Nat.le_trans (Nat.pow_le_pow_right (by omega) (by omega)) hlo
        have := (Nat.le_div_iff_mul_le hp2).2 this
        omega
theorem word_split (neg : Bool) (r : Nat) (h : r < 2 ^ 63) : double.word neg r / 2 ^ 63 % 2 = (if neg then 1 else 0) ∧ double.word neg r % 2 ^ 63 = r ∧ double.word neg r < 2 ^ 64 := by
  have hs : double.signWeight = 2 ^ 63 := rfl
  unfold Format.word
  rw [hs]
  cases neg <;> simp <;> omega

theorem read_word (neg : Bool) (r : Nat) (h : r < 2 ^ 63) : double.read (double.word neg r) =
    if r < 2 ^ 52 then .number neg r (-1074) else if r < 2047 * 2 ^ 52 then .number neg (2 ^ 52 + r % 2 ^ 52) (-1074 + (r / 2 ^ 52 - 1 : Nat)) else if r = 2047 * 2 ^ 52 then .infinity neg else .nan neg (r - 2047 * 2 ^ 52) := by
  obtain ⟨h1, h2, _⟩ := word_split neg r h
  have hs : double.signWeight = 2 ^ 63 := rfl
  have hb : double.binade = 2 ^ 52 := rfl
  have hi : double.infRung = 2047 * 2 ^ 52 := rfl
  have hl : double.leastPlace = -1074 := rfl
  unfold Format.read
  rw [hs, hb, hi, hl, h1, h2]
  have hn : ((if neg = true then 1 else 0) == 1) = neg := by cases neg <;> rfl
  simp only [hn]

theorem rat_shift' (s : Bool) (m k : Nat) (e : Int) : rat s (m * 2 ^ k) e = rat s m (e + k) := by
  have := rat_shift s m k (e + k)
  rw [Nat.shiftLeft_eq, show e + (k : Int) - k = e by omega] at this
  exact this

/-- a rung, as the number of a count of last places -/
theorem rung_read (neg : Bool) (a kept : Nat) (h1 : kept ≤ 2 ^ 53) (h2 : a = 0 ∨ 2 ^ 52 ≤ kept) (h3 : a * 2 ^ 52 + kept < 2047 * 2 ^ 52) :
    IsV (double.word neg (a * 2 ^ 52 + kept)) (rat neg kept (a - 1074)) := by
  have hr := read_word neg (a * 2 ^ 52 + kept) (by omega)
  by_cases c1 : a * 2 ^ 52 + kept < 2 ^ 52
  · have ha : a = 0 := by omega
    subst ha
    rw [if_pos c1] at hr
    exact ⟨(word_split neg _ (by omega)).2.2, _, _, _, hr, by simp⟩
  · rw [if_neg c1, if_pos h3] at hr
    refine ⟨(word_split neg _ (by omega)).2.2, _, _, _, hr, ?_⟩
    by_cases c2 : kept < 2 ^ 52
    · exfalso; omega
    · by_cases c3 : kept = 2 ^ 53
      · have e1 : (a * 2 ^ 52 + kept) % 2 ^ 52 = 0 := by omega
        have e2 : (a * 2 ^ 52 + kept) / 2 ^ 52 - 1 = a + 1 := by omega
        rw [e1, e2, c3, show (2 : Nat) ^ 53 = (2 ^ 52 + 0) * 2 ^ 1 by rfl, rat_shift']
        congr 1; omega
      · have e1 : 2 ^ 52 + (a * 2 ^ 52 + kept) % 2 ^ 52 = kept := by omega
        have e2 : (a * 2 ^ 52 + kept) / 2 ^ 52 - 1 = a := by omega
        rw [e1, e2]
        congr 1 <;> omega

/-- the value of what is kept -/
def keptRat (neg : Bool) (mag : Nat) (place : Int) : Rat := rat neg (keptOf neg mag place) (lastOf mag place)

theorem nearest_isV0 (neg : Bool) (mag : Nat) (place : Int) (h : mag ≠ 0) (hs : place + mag.log2 ≤ 1022) : IsV (double.nearest neg mag place) (keptRat neg mag place) := by
  obtain ⟨k1, k2⟩ := kept_bounds neg mag place h
  have hl : lastOf mag place = -1074 ∨ lastOf mag place = place + mag.log2 - 52 ∧ -1074 ≤ place + mag.log2 - 52 := by
    unfold lastOf; omega
  have ha : ((lastOf mag place + 1074).toNat : Int) = lastOf mag place + 1074 := by omega
  have hle : (lastOf mag place + 1074).toNat ≤ 2044 := by omega
  have hi : double.infRung = 2047 * 2 ^ 52 := rfl
  have hlt : (lastOf mag place + 1074).toNat * 2 ^ 52 + keptOf neg mag place < 2047 * 2 ^ 52 := by omega
  rw [nearest_eq neg mag place h, hi, Nat.min_eq_left (by omega)]
  have := rung_read neg (lastOf mag place + 1074).toNat (keptOf neg mag place) k1 (by omega) hlt
  rw [ha, show lastOf mag place + 1074 - 1074 = lastOf mag place by omega] at this
  exact this

theorem rat_false (m : Nat) (e : Int) : rat false m e = (m : Rat) * (2 : Rat) ^ e := by unfold rat; simp
theorem rat_true (m : Nat) (e : Int) : rat true m e = -((m : Rat) * (2 : Rat) ^ e) := by unfold rat; simp; grind
theorem rat_pos (m : Nat) (e : Int) : 0 ≤ (m : Rat) * (2 : Rat) ^ e := by
  have := zpow_pos e
  exact Rat.mul_nonneg (Rat.natCast_nonneg) (by grind)

/-- between two numbers, in last places -/
theorem kept_near (neg : Bool) (mag : Nat) (place : Int) (h : mag ≠ 0) :
    2 * ((keptOf neg mag place : Rat) * (2 : Rat) ^ lastOf mag place) ≤ 2 * ((mag : Rat) * (2 : Rat) ^ place) + (2 : Rat) ^ lastOf mag place ∧
    2 * ((mag : Rat) * (2 : Rat) ^ place) ≤ 2 * ((keptOf neg mag place : Rat) * (2 : Rat) ^ lastOf mag place) + (2 : Rat) ^ lastOf mag place := by
  unfold keptOf
  generalize lastOf mag place = last
  have hne : mag <<< (place - last).toNat ≠ 0 := by
    rw [Nat.shiftLeft_eq]; exact Nat.mul_ne_zero h (by have := Nat.two_pow_pos (place - last).toNat; omega)
  obtain ⟨c1, c2, _⟩ := cut_spec neg (mag <<< (place - last).toNat) (last - place).toNat hne
  generalize hk : Toward.even.cut neg (mag <<< (place - last).toNat) (last - place).toNat = kept at *
  rw [Nat.shiftLeft_eq] at *
  generalize hd : (last - place).toNat = d at *
  generalize hu : (place - last).toNat = u at *
  -- the least of both places
  have hb : last = min place last + d := by omega
  have hb' : place = min place last + u := by omega
  generalize min place last = b at *
  subst hb'
  rw [hb, zpow_add, zpow_add, zpow_nat, zpow_nat]
  have hp := zpow_pos b
  generalize (2 : Rat) ^ b = t at *
  have q1 : ((2 * (kept * 2 ^ d) : Nat) : Rat) ≤ ((2 * (mag * 2 ^ u) + 2 ^ d : Nat) : Rat) := Rat.natCast_le_natCast.2 c1
  have q2 : ((2 * (mag * 2 ^ u) : Nat) : Rat) ≤ ((2 * (kept * 2 ^ d) + 2 ^ d : Nat) : Rat) := Rat.natCast_le_natCast.2 c2
  rw [Rat.natCast_mul, Rat.natCast_mul, Rat.natCast_add, Rat.natCast_mul, Rat.natCast_mul] at q1
  rw [Rat.natCast_mul, Rat.natCast_mul, Rat.natCast_add, Rat.natCast_mul, Rat.natCast_mul] at q2
  generalize ((2 ^ d : Nat) : Rat) = D at *
  generalize ((2 ^ u : Nat) : Rat) = U at *
  have r1 := Rat.mul_le_mul_of_nonneg_right q1 (Rat.le_of_lt hp)
  have r2 := Rat.mul_le_mul_of_nonneg_right q2 (Rat.le_of_lt hp)
  have two : ((2 : Nat) : Rat) = 2 := rfl
  rw [two] at r1 r2
  constructor <;> grind

/-- two to a place below another -/
theorem zpow_le {a b : Int} (h : a ≤ b) : (2 : Rat) ^ a ≤ (2 : Rat) ^ b := by
  obtain ⟨n, rfl⟩ : ∃ n : Nat, b = a + n := ⟨(b - a).toNat, by omega⟩
  rw [zpow_add, zpow_nat]
  have hp := zpow_pos a
  have h1 : (1 : Rat) ≤ ((2 ^ n : Nat) : Rat) := by
    have : 1 ≤ 2 ^ n := Nat.one_le_two_pow
    exact Rat.natCast_le_natCast.2 this
  have := Rat.mul_le_mul_of_nonneg_left h1 (Rat.le_of_lt hp)
  rw [Rat.mul_one] at this
  exact this

/-- the relative part of the error -/
def eps : Rat := (2 : Rat) ^ (-53 : Int)
/-- the part of the error that is there near nought -/
def tiny : Rat := (2 : Rat) ^ (-1075 : Int)

/-- within so much -/
def Within (r v e : Rat) : Prop := v - e ≤ r ∧ r ≤ v + e

theorem last_le (mag : Nat) (place : Int) (h : mag ≠ 0) : (2 : Rat) ^ lastOf mag place ≤ 2 * (((mag : Rat) * (2 : Rat) ^ place) * eps + tiny) := by
  have hlo := Nat.log2_self_le h
  have t1 : (0 : Rat) < tiny := zpow_pos _
  have t2 : (0 : Rat) < eps := zpow_pos _
  have t3 := rat_pos mag place
  have t4 : 0 ≤ (mag : Rat) * (2 : Rat) ^ place * eps := Rat.mul_nonneg t3 (Rat.le_of_lt t2)
  unfold lastOf
  by_cases c : place + mag.log2 - 52 ≤ -1074
  · rw [show max (place + (mag.log2 : Int) - 52) (-1074) = -1075 + 1 by omega, zpow_add]
    have : (2 : Rat) ^ (1 : Int) = 2 := Rat.zpow_one 2
    rw [this]
    show tiny * 2 ≤ _
    grind
  · rw [show max (place + (mag.log2 : Int) - 52) (-1074) = (mag.log2 : Int) + place + (-53 : Int) + 1 by omega, zpow_add, zpow_add, zpow_add, zpow_nat]
    have : (2 : Rat) ^ (1 : Int) = 2 := Rat.zpow_one 2
    rw [this]
    have hm : ((2 ^ mag.log2 : Nat) : Rat) ≤ (mag : Rat) := Rat.natCast_le_natCast.2 hlo
    have h1 := Rat.mul_le_mul_of_nonneg_right hm (Rat.le_of_lt (zpow_pos place))
    have h2 := Rat.mul_le_mul_of_nonneg_right h1 (Rat.le_of_lt t2)
    show _ * eps * 2 ≤ _
    grind

/-- NEAREST: what is written stands within half a last place. -/
theorem nearest_isV (neg : Bool) (mag : Nat) (place : Int) (hs : mag ≠ 0 → place + mag.log2 ≤ 1022) :
    ∃ r, IsV (double.nearest neg mag place) r ∧ Within r (rat neg mag place) ((mag : Rat) * (2 : Rat) ^ place * eps + tiny) := by
  have t1 : (0 : Rat) < tiny := zpow_pos _
  by_cases h : mag = 0
  · subst h
    refine ⟨0, ⟨double.nearest_lt _ _ _, neg, 0, -1074, ?_, ?_⟩, ?_⟩
    · have : double.nearest neg 0 place = double.word neg 0 := by unfold Format.nearest; rw [if_pos rfl]
      rw [this, read_word neg 0 (by omega)]; rfl
    · unfold rat; rw [show ((0 : Nat) : Rat) = 0 from rfl, Rat.mul_zero, Rat.zero_mul]
    · unfold Within rat; rw [show ((0 : Nat) : Rat) = 0 from rfl, Rat.mul_zero, Rat.zero_mul, Rat.zero_mul]; constructor <;> grind
  · refine ⟨_, nearest_isV0 neg mag place h (hs h), ?_⟩
    obtain ⟨k1, k2⟩ := kept_near neg mag place h
    have k3 := last_le mag place h
    unfold Within keptRat
    generalize keptOf neg mag place = kept at *
    cases neg
    · rw [rat_false, rat_false]; constructor <;> grind
    · rw [rat_true, rat_true]; constructor <;> grind

theorem natCast_cancel {m n : Nat} {t : Rat} (ht : 0 < t) (h : (m : Rat) * t = n * t) : m = n := by
  have : ((m : Rat) - n) * t = 0 := by grind
  rcases Rat.mul_eq_zero.1 this with h | h
  · exact Rat.natCast_inj.1 (by grind)
  · grind

/-- two numbers of one value: one of them is the other, shifted -/
theorem rat_same {m n : Nat} {i j : Int} (h : (m : Rat) * (2 : Rat) ^ i = (n : Rat) * (2 : Rat) ^ j) (hij : i ≤ j) : m = n * 2 ^ (j - i).toNat := by
  have e : j = i + (j - i).toNat := by omega
  rw [e, zpow_add, zpow_nat] at h
  have : ((n * 2 ^ (j - i).toNat : Nat) : Rat) * (2 : Rat) ^ i = (m : Rat) * (2 : Rat) ^ i := by
    rw [h, Rat.natCast_mul]; grind
  exact (natCast_cancel (zpow_pos i) this).symm

/-- a number that has few digits is kept -/
theorem kept_exact (neg : Bool) (mag : Nat) (place : Int) (h : mag ≠ 0) (k : Nat) (j : Int) (hk : k < 2 ^ 53) (hj : -1074 ≤ j) (he : (mag : Rat) * (2 : Rat) ^ place = (k : Rat) * (2 : Rat) ^ j) :
    keptRat neg mag place = rat neg mag place := by
  have hlo := Nat.log2_self_le h
  have hhi := Nat.lt_log2_self (n := mag)
  have hl : lastOf mag place = -1074 ∨ lastOf mag place = place + mag.log2 - 52 := by
    unfold lastOf; omega
  have main : (keptOf neg mag place : Rat) * (2 : Rat) ^ lastOf mag place = (mag : Rat) * (2 : Rat) ^ place := by
    unfold keptOf
    generalize lastOf mag place = last at *
    by_cases c : last ≤ place
    · have hd : (last - place).toNat = 0 := by omega
      have hne : mag <<< (place - last).toNat ≠ 0 := by
        rw [Nat.shiftLeft_eq]; exact Nat.mul_ne_zero h (by have := Nat.two_pow_pos (place - last).toNat; omega)
      obtain ⟨_, _, c3, _⟩ := cut_spec neg _ (last - place).toNat hne
      rw [hd] at c3 ⊢
      have c3 := c3 (by simp)
      simp only [Nat.pow_zero, Nat.mul_one] at c3
      rw [c3, Nat.shiftLeft_eq, Rat.natCast_mul, ← zpow_nat]
      have : (2 : Rat) ^ place = (2 : Rat) ^ ((place - last).toNat : Int) * (2 : Rat) ^ last := by rw [← zpow_add]; congr 1; omega
      rw [this]; grind
    · have hu : (place - last).toNat = 0 := by omega
      rw [hu, Nat.shiftLeft_zero]
      obtain ⟨_, _, c3, _⟩ := cut_spec neg mag (last - place).toNat h
      have hdv : 2 ^ (last - place).toNat ∣ mag := by
        by_cases cj : place ≤ j
        · have := rat_same he cj
          have hle : (last - place).toNat ≤ (j - place).toNat := by
            rcases hl with hl | hl
            · omega
            · have hk0 : 2 ^ mag.log2 < 2 ^ (53 + (j - place).toNat) := by
                rw [Nat.pow_add]
                calc 2 ^ mag.log2 ≤ mag := hlo
                  _ = k * 2 ^ (j - place).toNat := this
                  _ < 2 ^ 53 * 2 ^ (j - place).toNat := Nat.mul_lt_mul_of_pos_right hk (Nat.two_pow_pos _)
              have := (Nat.pow_lt_pow_iff_right (by omega)).1 hk0
              omega
          rw [this]
          exact Nat.dvd_trans (Nat.pow_dvd_pow 2 hle) (Nat.dvd_mul_left _ _)
        · have := rat_same he.symm (by omega)
          exfalso
          rcases hl with hl | hl
          · omega
          · have hb : 2 ^ mag.log2 < 2 ^ 53 := by
              have : mag ≤ k := by rw [this]; exact Nat.le_mul_of_pos_right _ (Nat.two_pow_pos _)
              omega
            have := (Nat.pow_lt_pow_iff_right (by omega)).1 hb
            omega
      have c3 := c3 hdv
      have : (2 : Rat) ^ last = (2 : Rat) ^ ((last - place).toNat : Int) * (2 : Rat) ^ place := by rw [← zpow_add]; congr 1; omega
      rw [this, zpow_nat]
      have c4 : ((Toward.even.cut neg mag (last - place).toNat * 2 ^ (last - place).toNat : Nat) : Rat) = (mag : Rat) := by rw [c3]
      rw [Rat.natCast_mul] at c4
      rw [← c4]; grind
  unfold keptRat
  cases neg
  · rw [rat_false, rat_false, main]
  · rw [rat_true, rat_true, main]

/-- a word, from what it reads as -/
theorem read_inv {x : Nat} (hx : x < 2 ^ 64) {s : Bool} {m : Nat} {e : Int} (h : double.read x = .number s m e) :
    x = double.word s ((e + 1074).toNat * 2 ^ 52 + m) ∧ m < 2 ^ 53 ∧ -1074 ≤ e ∧ (e = -1074 ∨ 2 ^ 52 ≤ m) ∧ e ≤ 971 := by
  have hs : double.signWeight = 2 ^ 63 := rfl
  have hb : double.binade = 2 ^ 52 := rfl
  have hi : double.infRung = 2047 * 2 ^ 52 := rfl
  have hl : double.leastPlace = -1074 := rfl
  unfold Format.read at h
  simp only [hs, hb, hi, hl] at h
  unfold Format.word
  rw [hs]
  have hsign : ∀ b : Bool, (x / 2 ^ 63 % 2 == 1) = b → x = if b = true then 2 ^ 63 + x % 2 ^ 63 else x % 2 ^ 63 := by
    intro b hb
    cases b
    · have : x / 2 ^ 63 % 2 ≠ 1 := by simpa using hb
      simp; omega
    · have : x / 2 ^ 63 % 2 = 1 := by simpa using hb
      simp; omega
  split at h
  · rename_i c
    injection h with h1 h2 h3
    have := hsign _ h1
    subst h2 h3
    refine ⟨?_, by omega, by omega, by omega, by omega⟩
    rw [show ((-1074 : Int) + 1074).toNat * 2 ^ 52 + x % 2 ^ 63 = x % 2 ^ 63 by simp]
    exact this
  · rename_i c
    split at h
    · rename_i c2
      injection h with h1 h2 h3
      have := hsign _ h1
      subst h2 h3
      refine ⟨?_, by omega, by omega, by omega, by omega⟩
      rw [show ((-1074 : Int) + ((x % 2 ^ 63 / 2 ^ 52 - 1 : Nat) : Int) + 1074).toNat * 2 ^ 52 + (2 ^ 52 + x % 2 ^ 63 % 2 ^ 52) = x % 2 ^ 63 by omega]
      exact this
    · split at h <;> cases h

theorem rat_sign {s t : Bool} {m n : Nat} {i j : Int} (h : rat s m i = rat t n j) (hm : m ≠ 0) : s = t ∧ (m : Rat) * (2 : Rat) ^ i = (n : Rat) * (2 : Rat) ^ j := by
  have h1 := rat_pos n j
  have hm' : (0 : Rat) < (m : Rat) := Rat.natCast_pos.2 (by omega)
  have h2 : 0 < (m : Rat) * (2 : Rat) ^ i := Rat.mul_pos hm' (zpow_pos i)
  cases s <;> cases t <;> simp only [rat_false, rat_true] at h
  · exact ⟨rfl, h⟩
  · grind
  · grind
  · exact ⟨rfl, by grind⟩

/-- ONE VALUE, ONE WORD (but for nought, which has two). -/
theorem isV_bits {x y : Nat} {q : Rat} (hx : IsV x q) (hy : IsV y q) (hq : q ≠ 0) : x = y := by
  obtain ⟨lx, s, m, e, h, h1⟩ := hx
  obtain ⟨ly, t, n, j, h', h2⟩ := hy
  obtain ⟨a1, a2, a3, a4, _⟩ := read_inv lx h
  obtain ⟨b1, b2, b3, b4, _⟩ := read_inv ly h'
  have hm : m ≠ 0 := by
    intro c; subst c; apply hq; rw [← h1]; unfold rat; rw [show ((0 : Nat) : Rat) = 0 from rfl, Rat.mul_zero, Rat.zero_mul]
  obtain ⟨g1, g2⟩ := rat_sign (h1.trans h2.symm) hm
  have key : ∀ {m n : Nat} {e j : Int}, m < 2 ^ 53 → (j = -1074 ∨ 2 ^ 52 ≤ n) → -1074 ≤ e → e ≤ j → (m : Rat) * (2 : Rat) ^ e = (n : Rat) * (2 : Rat) ^ j → e = j ∧ m = n := by
    intro m n e j hm hn he hej hv
    have hs := rat_same hv hej
    by_cases c : e = j
    · subst c; simp at hs; exact ⟨rfl, hs⟩
    · exfalso
      have hn' : 2 ^ 52 ≤ n := by omega
      obtain ⟨k, hk⟩ : ∃ k, (j - e).toNat = k + 1 := ⟨(j - e).toNat - 1, by omega⟩
      rw [hk, Nat.pow_succ] at hs
      have h1 : 1 ≤ 2 ^ k := Nat.one_le_two_pow
      have : n * 1 ≤ n * 2 ^ k := Nat.mul_le_mul_left _ h1
      rw [← Nat.mul_assoc] at hs
      omega
  have : e = j ∧ m = n := by
    by_cases c : e ≤ j
    · exact key a2 b4 a3 c g2
    · have := key b2 a4 b3 (by omega) g2.symm; exact ⟨this.1.symm, this.2.symm⟩
  rw [a1, b1, g1, this.1, this.2]

/-- the sign of a word -/
def negF (x : Nat) : Bool := x / 2 ^ 63 % 2 == 1

/-- nought without a sign is the word 0 -/
theorem isV_zero {x : Nat} (hx : IsV x 0) (hn : negF x = false) : x = 0 := by
  obtain ⟨lx, s, m, e, h, h1⟩ := hx
  obtain ⟨a1, a2, a3, a4, _⟩ := read_inv lx h
  have hm : m = 0 := by
    have hp := zpow_pos e
    cases s
    · rw [rat_false] at h1
      rcases Rat.mul_eq_zero.1 h1 with h1 | h1
      · exact Rat.natCast_inj.1 h1
      · grind
    · rw [rat_true] at h1
      have h1 : (m : Rat) * 2 ^ e = 0 := by grind
      rcases Rat.mul_eq_zero.1 h1 with h1 | h1
      · exact Rat.natCast_inj.1 h1
      · grind
  subst hm
  have he : e = -1074 := by omega
  subst he
  have hs : double.signWeight = 2 ^ 63 := rfl
  unfold Format.word at a1
  rw [hs] at a1
  unfold negF at hn
  cases s
  · simpa using a1
  · exfalso
    simp at a1
    subst a1
    simp at hn

theorem log2_of_bound {m : Nat} {p : Int} (hm : m ≠ 0) {k : Int} (h : (m : Rat) * (2 : Rat) ^ p ≤ (2 : Rat) ^ k) : p + m.log2 ≤ k := by
  have hlo := Nat.log2_self_le hm
  have hmr : ((2 ^ m.log2 : Nat) : Rat) ≤ (m : Rat) := Rat.natCast_le_natCast.2 hlo
  have h1 := Rat.mul_le_mul_of_nonneg_right hmr (Rat.le_of_lt (zpow_pos p))
  rw [← zpow_nat, ← zpow_add] at h1
  have h2 := Rat.le_trans h1 h
  by_cases c : p + m.log2 ≤ k
  · exact c
  · exfalso
    have h3 : (2 : Rat) ^ (k + 1) ≤ (2 : Rat) ^ ((m.log2 : Int) + p) := zpow_le (by omega)
    rw [zpow_add k 1] at h3
    have h4 : (2 : Rat) ^ (1 : Int) = 2 := Rat.zpow_one 2
    rw [h4] at h3
    have := zpow_pos k
    grind

/-- the greatest magnitude that is spoken of here -/
@[irreducible] def huge : Rat := (2 : Rat) ^ (1000 : Int)
theorem huge_eq : huge = (2 : Rat) ^ (1000 : Int) := by unfold huge; rfl

/-- no farther from nought than so much -/
def Mag (v M : Rat) : Prop := -M ≤ v ∧ v ≤ M

theorem mag_rat {s : Bool} {m : Nat} {e : Int} {M : Rat} (h : Mag (rat s m e) M) : (m : Rat) * (2 : Rat) ^ e ≤ M := by
  unfold Mag at h
  cases s
  · rw [rat_false] at h; exact h.2
  · rw [rat_true] at h; grind

theorem Within.mono {r v e e' : Rat} (h : Within r v e) (he : e ≤ e') : Within r v e' := by
  unfold Within at *; constructor <;> grind

/-- WRITTEN: the word of a number. -/
theorem write_isV {s : Bool} {m : Nat} {e : Int} {v M : Rat} (hv : rat s m e = v) (hM : Mag v M) (hh : M ≤ huge) :
    ∃ r, IsV (double.nearest s m e) r ∧ Within r v (M * eps + tiny) := by
  subst hv
  have h1 := mag_rat hM
  obtain ⟨r, h2, h3⟩ := nearest_isV s m e (fun hm => by
    have : (m : Rat) * (2 : Rat) ^ e ≤ (2 : Rat) ^ (1000 : Int) := by rw [← huge_eq]; exact Rat.le_trans h1 hh
    have := log2_of_bound hm this
    omega)
  refine ⟨r, h2, h3.mono ?_⟩
  have t2 : (0 : Rat) < eps := zpow_pos _
  have := Rat.mul_le_mul_of_nonneg_right h1 (Rat.le_of_lt t2)
  grind

/-- WRITTEN WHOLE: a number of few digits. -/
theorem write_exact {s t : Bool} {m k : Nat} {e j : Int} (hk : k < 2 ^ 53) (hj : -1074 ≤ j) (hj' : j ≤ 960) (he : rat s m e = rat t k j) :
    IsV (double.nearest s m e) (rat t k j) := by
  by_cases hm : m = 0
  · subst hm
    rw [← he]
    have h0 : rat s 0 e = 0 := by unfold rat; rw [show ((0 : Nat) : Rat) = 0 from rfl, Rat.mul_zero, Rat.zero_mul]
    rw [h0]
    refine ⟨double.nearest_lt _ _ _, s, 0, -1074, ?_, ?_⟩
    · have : double.nearest s 0 e = double.word s 0 := by unfold Format.nearest; rw [if_pos rfl]
      rw [this, read_word s 0 (by omega)]; rfl
    · unfold rat; rw [show ((0 : Nat) : Rat) = 0 from rfl, Rat.mul_zero, Rat.zero_mul]
  · obtain ⟨h1, h2⟩ := rat_sign he hm
    rw [← he, ← kept_exact s m e hm k j hk hj h2]
    refine nearest_isV0 s m e hm ?_
    have hkr : (k : Rat) ≤ ((2 ^ 53 : Nat) : Rat) := Rat.natCast_le_natCast.2 (by omega)
    have h3 := Rat.mul_le_mul_of_nonneg_right hkr (Rat.le_of_lt (zpow_pos j))
    rw [← h2, ← zpow_nat, ← zpow_add] at h3
    have := log2_of_bound hm h3
    omega

/-! ### The operations -/

theorem eps_pos : (0 : Rat) < eps := zpow_pos _
theorem tiny_pos : (0 : Rat) < tiny := zpow_pos _

/-- a number of few digits -/
def Few (v : Rat) : Prop := ∃ t k j, k < 2 ^ 53 ∧ -1074 ≤ j ∧ j ≤ 960 ∧ v = rat t k j

theorem few_int {n : Int} (h : n.natAbs < 2 ^ 53) : Few (n : Rat) := by
  refine ⟨decide (n < 0), n.natAbs, 0, h, by omega, by omega, ?_⟩
  unfold rat
  rw [Rat.zpow_zero, Rat.mul_one]
  by_cases c : n < 0
  · have : (n.natAbs : Int) = -n := by omega
    rw [← Rat.intCast_natCast, this, Rat.intCast_neg]; simp [c]; grind
  · have : (n.natAbs : Int) = n := by omega
    rw [← Rat.intCast_natCast, this]; simp [c]

/-- a half of a whole number, a quarter .. -/
theorem few_part {n : Int} (d : Nat) (hd : d ≤ 60) (h : n.natAbs < 2 ^ 53) : Few ((n : Rat) * (2 : Rat) ^ (-(d : Int))) := by
  refine ⟨decide (n < 0), n.natAbs, -(d : Int), h, by omega, by omega, ?_⟩
  unfold rat
  by_cases c : n < 0
  · have : (n.natAbs : Int) = -n := by omega
    rw [← Rat.intCast_natCast, this, Rat.intCast_neg]; simp [c]; grind
  · have : (n.natAbs : Int) = n := by omega
    rw [← Rat.intCast_natCast, this]; simp [c]

theorem opposite_rat {s : Bool} {m : Nat} {e : Int} : rat (!s) m e = -rat s m e := by
  cases s
  · simp only [Bool.not_false, rat_true, rat_false]
  · simp only [Bool.not_true, rat_true, rat_false]; grind

/-- the datum of a sum and the like, written -/
theorem write_few {s : Bool} {m : Nat} {e : Int} {v : Rat} (hv : rat s m e = v) (hf : Few v) : IsV (double.nearest s m e) v := by
  obtain ⟨t, k, j, h1, h2, h3, h4⟩ := hf
  have := write_exact (e := e) (s := s) (m := m) h1 h2 h3 (hv.trans h4)
  rw [h4]; exact this

theorem add_datum {x y : Nat} {p q : Rat} (hx : IsV x p) (hy : IsV y q) : ∃ s m e, double.add x y = some (double.nearest s m e) ∧ rat s m e = p + q := by
  obtain ⟨_, s, m, e, h, rfl⟩ := hx
  obtain ⟨_, t, n, j, h', rfl⟩ := hy
  unfold Format.add
  rw [h, h']
  obtain ⟨d, hd⟩ : ∃ d, Datum.sum (.number s m e) (.number t n j) = some d := ⟨_, rfl⟩
  obtain ⟨u, k, b, rfl, hr⟩ := read_sum hd
  rw [hd]
  exact ⟨u, k, b, rfl, hr⟩

theorem sub_datum {x y : Nat} {p q : Rat} (hx : IsV x p) (hy : IsV y q) : ∃ s m e, double.sub x y = some (double.nearest s m e) ∧ rat s m e = p - q := by
  obtain ⟨_, s, m, e, h, rfl⟩ := hx
  obtain ⟨_, t, n, j, h', rfl⟩ := hy
  unfold Format.sub
  rw [h, h']
  show ∃ s' m' e', (Datum.sum (.number s m e) (.number (!t) n j)).map double.write = some (double.nearest s' m' e') ∧ _
  obtain ⟨d, hd⟩ : ∃ d, Datum.sum (.number s m e) (.number (!t) n j) = some d := ⟨_, rfl⟩
  obtain ⟨u, k, b, rfl, hr⟩ := read_sum hd
  rw [hd]
  refine ⟨u, k, b, rfl, ?_⟩
  rw [hr, opposite_rat]; grind

theorem mul_datum {x y : Nat} {p q : Rat} (hx : IsV x p) (hy : IsV y q) : ∃ s m e, double.mul x y = some (double.nearest s m e) ∧ rat s m e = p * q := by
  obtain ⟨_, s, m, e, h, rfl⟩ := hx
  obtain ⟨_, t, n, j, h', rfl⟩ := hy
  unfold Format.mul
  rw [h, h']
  obtain ⟨u, k, b, hd, hr⟩ := read_product (s := s) (t := t) (m := m) (n := n) (i := e) (j := j)
  rw [hd]
  exact ⟨u, k, b, rfl, hr⟩

/-- '/' on two magnitudes: the quotient, with a digit for what is left over: never more than a last digit away -/
theorem quot_near (m n more : Nat) (hn : n ≠ 0) :
    n * (2 * (m * 2 ^ more / n) + (m * 2 ^ more % n != 0).toNat) ≤ 2 * (m * 2 ^ more) + n ∧ 2 * (m * 2 ^ more) ≤ n * (2 * (m * 2 ^ more / n) + (m * 2 ^ more % n != 0).toNat) + n ∧
    (n ∣ m * 2 ^ more → n * (2 * (m * 2 ^ more / n) + (m * 2 ^ more % n != 0).toNat) = 2 * (m * 2 ^ more)) := by
  generalize m * 2 ^ more = N
  have e := Nat.div_add_mod N n
  have hr := Nat.mod_lt N (by omega : n > 0)
  have h2 : n * (2 * (N / n)) = 2 * (n * (N / n)) := by rw [← Nat.mul_assoc, Nat.mul_comm n 2, Nat.mul_assoc]
  by_cases c : N % n = 0
  · have : (N % n != 0).toNat = 0 := by simp [c]
    rw [this, Nat.add_zero, h2]
    omega
  · have : (N % n != 0).toNat = 1 := by simp [c]
    rw [this, Nat.mul_add, h2, Nat.mul_one]
    refine ⟨by omega, by omega, fun hd => ?_⟩
    have := Nat.mod_eq_zero_of_dvd hd
    omega

/-- a quotient's magnitude and place -/
def quotMag (m n more : Nat) : Nat := 2 * (m * 2 ^ more / n) + (m * 2 ^ more % n != 0).toNat

theorem div_datum {x y : Nat} {s t : Bool} {m n : Nat} {i j : Int} (h : double.read x = .number s m i) (h' : double.read y = .number t n j) (hn : n ≠ 0) :
    double.div x y = some (double.nearest (s ^^ t) (quotMag m n (54 + n.log2 - m.log2)) (i - j - (54 + n.log2 - m.log2 : Nat) - 1)) := by
  unfold Format.div
  rw [h, h']
  simp only [Datum.quotient, hn, if_false, Option.map_some, Nat.shiftLeft_eq]
  rfl

theorem rat_div {s t : Bool} {m n : Nat} {i j : Int} (hn : n ≠ 0) : rat s m i / rat t n j = (if s ^^ t then -1 else 1) * (((m : Rat) / (n : Rat)) * (2 : Rat) ^ (i - j)) := by
  have hj := zpow_pos j
  have hn' : (n : Rat) ≠ 0 := by
    intro c; exact hn (Rat.natCast_inj.1 c)
  have e : (2 : Rat) ^ i = (2 : Rat) ^ (i - j) * (2 : Rat) ^ j := by rw [← zpow_add]; congr 1; omega
  have key : (m : Rat) * (2 : Rat) ^ i / ((n : Rat) * (2 : Rat) ^ j) = (m : Rat) / (n : Rat) * (2 : Rat) ^ (i - j) := by
    rw [e]
    generalize (2 : Rat) ^ j = J at *
    generalize (2 : Rat) ^ (i - j) = D at *
    have hJ : J ≠ 0 := by grind
    grind
  cases s <;> cases t <;> simp only [rat_true, rat_false, Bool.xor_false, Bool.xor_true, Bool.not_true, Bool.not_false, if_true, if_false, Bool.false_eq_true]
  · rw [key]; grind
  · rw [← key]; grind
  · rw [← key]; grind
  · rw [← key]; grind

theorem unit_le {B V h c : Rat} (h0 : 0 ≤ h) (hc : c * h = 1) (hv : B * c ≤ V) : B ≤ V * h := by
  have := Rat.mul_le_mul_of_nonneg_right hv h0
  have e : B * c * h = B := by rw [Rat.mul_assoc, hc, Rat.mul_one]
  rw [e] at this; exact this

theorem eps_half : ∃ h : Rat, 0 < h ∧ eps = 2 * h ∧ ((2 ^ 54 : Nat) : Rat) * h = 1 ∧ h ≤ 1 / 64 := by
  refine ⟨(2 : Rat) ^ (-54 : Int), zpow_pos _, ?_, ?_, ?_⟩
  · unfold eps
    rw [show (-53 : Int) = 1 + (-54) by omega, zpow_add]
    have : (2 : Rat) ^ (1 : Int) = 2 := Rat.zpow_one 2
    rw [this]
  · rw [← zpow_nat, ← zpow_add]; rfl
  · have h1 : ((2 ^ 54 : Nat) : Rat) * (2 : Rat) ^ (-54 : Int) = 1 := by rw [← zpow_nat, ← zpow_add]; rfl
    have h2 : (0 : Rat) < (2 : Rat) ^ (-54 : Int) := zpow_pos _
    generalize (2 : Rat) ^ (-54 : Int) = h at *
    have h3 : ((64 : Nat) : Rat) ≤ ((2 ^ 54 : Nat) : Rat) := Rat.natCast_le_natCast.2 (by decide)
    have h4 := Rat.mul_le_mul_of_nonneg_right h3 (Rat.le_of_lt h2)
    have h5 : ((64 : Nat) : Rat) = 64 := rfl
    rw [h1, h5] at h4
    grind

theorem div_isV {x y : Nat} {p q M : Rat} (hx : IsV x p) (hy : IsV y q) (hq : q ≠ 0) (hM : Mag (p / q) M) (hh : 2 * M ≤ huge) :
    ∃ z r, double.div x y = some z ∧ IsV z r ∧ Within r (p / q) (2 * (M * eps) + 2 * tiny) := by
  obtain ⟨_, s, m, i, h, rfl⟩ := hx
  obtain ⟨_, t, n, j, h', rfl⟩ := hy
  have hn : n ≠ 0 := by
    intro c; subst c; apply hq; unfold rat; rw [show ((0 : Nat) : Rat) = 0 from rfl, Rat.mul_zero, Rat.zero_mul]
  rw [rat_div hn] at hM ⊢
  have hd := div_datum h h' hn
  generalize hmore : 54 + n.log2 - m.log2 = more at hd
  obtain ⟨a1, a2, _⟩ := quot_near m n more hn
  have hn0 : (0 : Rat) < (n : Rat) := Rat.natCast_pos.2 (by omega)
  -- the quotient, exactly, in last digits
  have hbig : m ≠ 0 → n * 2 ^ 53 ≤ m * 2 ^ more := by
    intro hm
    have b1 := Nat.lt_log2_self (n := n)
    have b2 := Nat.log2_self_le hm
    calc n * 2 ^ 53 ≤ 2 ^ (n.log2 + 1) * 2 ^ 53 := Nat.mul_le_mul_right _ (by omega)
      _ = 2 ^ (n.log2 + 54) := by rw [← Nat.pow_add]
      _ ≤ 2 ^ (m.log2 + more) := Nat.pow_le_pow_right (by omega) (by omega)
      _ = 2 ^ m.log2 * 2 ^ more := Nat.pow_add ..
      _ ≤ m * 2 ^ more := Nat.mul_le_mul_right _ b2
  have eq : (m : Rat) / n * (2 : Rat) ^ (i - j) = (2 * (m * 2 ^ more : Nat) : Rat) / n * (2 : Rat) ^ (i - j - more - 1) := by
    have : (2 : Rat) ^ (i - j) = 2 * (2 ^ more : Nat) * (2 : Rat) ^ (i - j - more - 1) := by
      have t1 : (2 : Rat) ^ (1 : Int) = 2 := Rat.zpow_one 2
      rw [← zpow_nat]
      have : (2 : Rat) * 2 ^ (more : Int) = 2 ^ ((1 : Int) + more) := by rw [zpow_add, t1]
      rw [this, ← zpow_add]; congr 1; omega
    rw [this, Rat.natCast_mul]; grind
  generalize hB : (2 : Rat) ^ (i - j - more - 1) = B at *
  have hBp : 0 < B := by rw [← hB]; exact zpow_pos _
  have r1 : ((n * quotMag m n more : Nat) : Rat) ≤ ((2 * (m * 2 ^ more) + n : Nat) : Rat) := Rat.natCast_le_natCast.2 a1
  have r2 : ((2 * (m * 2 ^ more) : Nat) : Rat) ≤ ((n * quotMag m n more + n : Nat) : Rat) := Rat.natCast_le_natCast.2 a2
  rw [Rat.natCast_mul, Rat.natCast_add, Rat.natCast_mul] at r1
  rw [Rat.natCast_mul, Rat.natCast_add, Rat.natCast_mul n] at r2
  have two : ((2 : Nat) : Rat) = 2 := rfl
  rw [two] at r1 r2
  have hb' : m ≠ 0 → (n : Rat) * (2 ^ 53 : Nat) ≤ ((m * 2 ^ more : Nat) : Rat) := fun hm => by
    have : ((n * 2 ^ 53 : Nat) : Rat) ≤ ((m * 2 ^ more : Nat) : Rat) := Rat.natCast_le_natCast.2 (hbig hm)
    rwa [Rat.natCast_mul] at this
  generalize hN : ((m * 2 ^ more : Nat) : Rat) = N at *
  generalize hQ : (quotMag m n more : Rat) = Q at *
  -- V: the true magnitude
  have hV1 : Q * B ≤ 2 * N / n * B + B := by
    have : Q ≤ 2 * N / n + 1 := by
      have : 2 * N / n * n = 2 * N := Rat.div_mul_cancel (by grind)
      have h3 : (n : Rat) * Q ≤ n * (2 * N / n + 1) := by grind
      exact Rat.le_of_mul_le_mul_left h3 hn0
    have := Rat.mul_le_mul_of_nonneg_right this (Rat.le_of_lt hBp)
    grind
  have hV2 : 2 * N / n * B ≤ Q * B + B := by
    have : 2 * N / n ≤ Q + 1 := by
      have : 2 * N / n * n = 2 * N := Rat.div_mul_cancel (by grind)
      have h3 : (n : Rat) * (2 * N / n) ≤ n * (Q + 1) := by grind
      exact Rat.le_of_mul_le_mul_left h3 hn0
    have := Rat.mul_le_mul_of_nonneg_right this (Rat.le_of_lt hBp)
    grind
  rw [eq] at hM ⊢
  generalize hV : 2 * N / n * B = V at *
  have hVp : m ≠ 0 → B * (2 ^ 54 : Nat) ≤ V := by
    intro hm
    have h3 := hb' hm
    have : (2 ^ 54 : Nat) ≤ 2 * N / n := by
      have h4 : 2 * N / n * n = 2 * N := Rat.div_mul_cancel (by grind)
      have h5 : (n : Rat) * (2 ^ 54 : Nat) ≤ n * (2 * N / n) := by
        have : ((2 ^ 54 : Nat) : Rat) = 2 * (2 ^ 53 : Nat) := by
          rw [show (2 : Nat) ^ 54 = 2 * 2 ^ 53 by rfl, Rat.natCast_mul]; rfl
        rw [this]; grind
      exact Rat.le_of_mul_le_mul_left h5 hn0
    have := Rat.mul_le_mul_of_nonneg_right this (Rat.le_of_lt hBp)
    grind
  by_cases hm : m = 0
  · subst hm
    have hQ0 : Q = 0 := by
      rw [← hQ]; unfold quotMag; simp
    have hN0 : N = 0 := by rw [← hN]; simp
    have hV0 : V = 0 := by rw [← hV, hN0]; grind
    have hz : IsV (double.nearest (s ^^ t) (quotMag 0 n more) (i - j - more - 1)) 0 := by
      refine write_few ?_ (few_int (n := 0) (by decide))
      unfold rat; rw [hQ, hQ0]; grind
    refine ⟨_, 0, hd, hz, ?_⟩
    rw [hV0] at hM ⊢
    have e1 := eps_pos
    have t1 := tiny_pos
    have hM0 : 0 ≤ M := by unfold Mag at hM; split at hM <;> grind
    have := Rat.mul_nonneg hM0 (Rat.le_of_lt e1)
    unfold Within
    split <;> constructor <;> grind
  · have hv54 := hVp hm
    obtain ⟨h, hp, heq, hc, hq4⟩ := eps_half
    have he : B ≤ V * h := unit_le (Rat.le_of_lt hp) hc hv54
    have hVpos : 0 ≤ V := by grind
    have hMV : V ≤ M := by unfold Mag at hM; split at hM <;> grind
    have h6 : V * h ≤ M * h := Rat.mul_le_mul_of_nonneg_right hMV (Rat.le_of_lt hp)
    have hM0 : 0 ≤ M := Rat.le_trans hVpos hMV
    have h7 : M * h ≤ M * (1 / 64) := Rat.mul_le_mul_of_nonneg_left hq4 hM0
    have hmag : Mag (rat (s ^^ t) (quotMag m n more) (i - j - more - 1)) (2 * M) := by
      unfold Mag
      have hnn : 0 ≤ Q * B := Rat.mul_nonneg (by rw [← hQ]; exact Rat.natCast_nonneg) (Rat.le_of_lt hBp)
      cases (s ^^ t)
      · rw [rat_false, hQ, hB]; constructor <;> grind
      · rw [rat_true, hQ, hB]; constructor <;> grind
    -- the error of the last step, at the true size
    have hQB : Q * B ≤ V * (1 + h) := by
      have : V * (1 + h) = V + V * h := by grind
      rw [this]; exact Rat.le_trans hV1 (Rat.add_le_add_left.2 he)
    obtain ⟨r, g1, g2⟩ := nearest_isV (s ^^ t) (quotMag m n more) (i - j - more - 1) (fun hne => by
      have h8 := mag_rat hmag
      have : (quotMag m n more : Rat) * (2 : Rat) ^ (i - j - more - 1) ≤ (2 : Rat) ^ (1000 : Int) := by rw [← huge_eq]; exact Rat.le_trans h8 hh
      have := log2_of_bound hne this
      omega)
    refine ⟨_, r, hd, g1, ?_⟩
    rw [hQ, hB] at g2
    have h9 : Q * B * eps ≤ V * (1 + h) * (2 * h) := by rw [heq]; exact Rat.mul_le_mul_of_nonneg_right hQB (by grind)
    have h10 : V * (1 + h) * (2 * h) ≤ V * (3 * h) := by
      have hh1 : (1 + h) * (2 * h) ≤ (3 / 2) * (2 * h) := Rat.mul_le_mul_of_nonneg_right (by grind) (by grind)
      have := Rat.mul_le_mul_of_nonneg_left hh1 hVpos
      grind
    have h11 : V * (3 * h) + V * h = 2 * (V * eps) := by rw [heq]; grind
    have h12 : V * eps ≤ M * eps := Rat.mul_le_mul_of_nonneg_right hMV (Rat.le_of_lt eps_pos)
    have t1 := tiny_pos
    unfold Within at *
    revert g2
    cases (s ^^ t)
    · rw [rat_false, hQ, hB]; simp only [if_false, Bool.false_eq_true]; intro g2; constructor <;> grind
    · rw [rat_true, hQ, hB]; simp only [if_true]; intro g2; constructor <;> grind

/-- a quotient of few digits is exact -/
theorem div_exact {x y : Nat} {p q v : Rat} (hx : IsV x p) (hy : IsV y q) (hq : q ≠ 0) (hv : v * q = p) (hf : Few v) :
    ∃ z, double.div x y = some z ∧ IsV z v := by
  obtain ⟨_, s, m, i, h, rfl⟩ := hx
  obtain ⟨_, t, n, j, h', rfl⟩ := hy
  have hn : n ≠ 0 := by
    intro c; subst c; apply hq; unfold rat; rw [show ((0 : Nat) : Rat) = 0 from rfl, Rat.mul_zero, Rat.zero_mul]
  have hd := div_datum h h' hn
  have hv' : v = rat s m i / rat t n j := by
    generalize rat s m i = p at *
    generalize rat t n j = q at *
    grind
  rw [rat_div hn] at hv'
  refine ⟨_, hd, ?_⟩
  generalize hmore : 54 + n.log2 - m.log2 = more at *
  obtain ⟨u, k, l, hk, hl1, hl2, hkv⟩ := hf
  have hfew : Few v := ⟨u, k, l, hk, hl1, hl2, hkv⟩
  refine write_few ?_ hfew
  -- n goes into what is divided
  have hn0 : (n : Rat) ≠ 0 := fun c => hn (Rat.natCast_inj.1 c)
  have hmag : (m : Rat) / n * (2 : Rat) ^ (i - j) = (k : Rat) * (2 : Rat) ^ l := by
    have h1 : (0 : Rat) ≤ (m : Rat) / n * (2 : Rat) ^ (i - j) := by
      have h2 : (0 : Rat) < (n : Rat) := Rat.natCast_pos.2 (by omega)
      have h3 : (0 : Rat) < (n : Rat)⁻¹ := Rat.inv_pos.2 h2
      rw [Rat.div_def]
      exact Rat.mul_nonneg (Rat.mul_nonneg Rat.natCast_nonneg (Rat.le_of_lt h3)) (Rat.le_of_lt (zpow_pos _))
    have h2 := rat_pos k l
    rw [hkv] at hv'
    generalize (m : Rat) / n * (2 : Rat) ^ (i - j) = A at *
    cases u
    · rw [rat_false] at hv'; split at hv' <;> grind
    · rw [rat_true] at hv'; split at hv' <;> grind
  have hdiv : n ∣ m * 2 ^ more := by
    have e : (m : Rat) * (2 : Rat) ^ (i - j) = ((n * k : Nat) : Rat) * (2 : Rat) ^ l := by
      rw [Rat.natCast_mul]
      generalize (2 : Rat) ^ l = L at *
      generalize (2 : Rat) ^ (i - j) = D at *
      grind
    by_cases c : i - j ≤ l
    · have := rat_same e c
      rw [this, Nat.mul_assoc, Nat.mul_assoc]
      exact Nat.dvd_mul_right _ _
    · have hnk := rat_same e.symm (by omega)
      by_cases hm : m = 0
      · subst hm; simp
      · have b1 := Nat.lt_log2_self (n := n)
        have b2 := Nat.log2_self_le hm
        have hlt : 2 ^ (m.log2 + (i - j - l).toNat) < 2 ^ (n.log2 + 1 + 53) := by
          rw [Nat.pow_add, Nat.pow_add _ _ 53]
          calc 2 ^ m.log2 * 2 ^ (i - j - l).toNat ≤ m * 2 ^ (i - j - l).toNat := Nat.mul_le_mul_right _ b2
            _ = n * k := hnk.symm
            _ ≤ n * 2 ^ 53 := Nat.mul_le_mul_left _ (by omega)
            _ < 2 ^ (n.log2 + 1) * 2 ^ 53 := Nat.mul_lt_mul_of_pos_right b1 (by decide)
        have := (Nat.pow_lt_pow_iff_right (by omega)).1 hlt
        have hle : (i - j - l).toNat ≤ more := by omega
        have hsplit : m * 2 ^ more = m * 2 ^ (i - j - l).toNat * 2 ^ (more - (i - j - l).toNat) := by
          rw [Nat.mul_assoc, ← Nat.pow_add]; congr 2; omega
        rw [hsplit, ← hnk, Nat.mul_assoc]
        exact Nat.dvd_mul_right _ _
  obtain ⟨_, _, a3⟩ := quot_near m n more hn
  have a3 := a3 hdiv
  have a4 : (n : Rat) * (quotMag m n more : Rat) = 2 * ((m : Rat) * (2 ^ more : Nat)) := by
    have : ((n * quotMag m n more : Nat) : Rat) = ((2 * (m * 2 ^ more) : Nat) : Rat) := by unfold quotMag; rw [a3]
    rw [Rat.natCast_mul, Rat.natCast_mul, Rat.natCast_mul] at this
    exact this
  have eq : (quotMag m n more : Rat) * (2 : Rat) ^ (i - j - more - 1) = (m : Rat) / n * (2 : Rat) ^ (i - j) := by
    have : (2 : Rat) ^ (i - j) = 2 * (2 ^ more : Nat) * (2 : Rat) ^ (i - j - more - 1) := by
      have t1 : (2 : Rat) ^ (1 : Int) = 2 := Rat.zpow_one 2
      rw [← zpow_nat]
      have : (2 : Rat) * 2 ^ (more : Int) = 2 ^ ((1 : Int) + more) := by rw [zpow_add, t1]
      rw [this, ← zpow_add]; congr 1; omega
    rw [this]
    generalize (2 : Rat) ^ (i - j - more - 1) = B
    generalize ((2 ^ more : Nat) : Rat) = T at *
    generalize (quotMag m n more : Rat) = Q at *
    grind
  rw [hv']
  cases (s ^^ t)
  · rw [rat_false, eq]; simp
  · rw [rat_true, eq]; simp; grind

/-! ### Roots -/

theorem rootFrom_spec (n : Nat) : ∀ (todo root : Nat), root * root ≤ n → n < (root + 2 ^ todo) * (root + 2 ^ todo) →
    Datum.rootFrom n todo root * Datum.rootFrom n todo root ≤ n ∧ n < (Datum.rootFrom n todo root + 1) * (Datum.rootFrom n todo root + 1)
  | 0, root, h1, h2 => by simpa [Datum.rootFrom] using ⟨h1, h2⟩
  | todo + 1, root, h1, h2 => by
    unfold Datum.rootFrom
    simp only [Nat.one_shiftLeft]
    have e : root + 2 ^ (todo + 1) = root + 2 ^ todo + 2 ^ todo := by rw [Nat.pow_succ]; omega
    rw [e] at h2
    split
    · rename_i c
      exact rootFrom_spec n todo _ c h2
    · rename_i c
      exact rootFrom_spec n todo _ h1 (by omega)

def isqrt (n : Nat) : Nat := Datum.rootFrom n (n.log2 / 2 + 1) 0
theorem isqrt_spec (n : Nat) : isqrt n * isqrt n ≤ n ∧ n < (isqrt n + 1) * (isqrt n + 1) := by
  refine rootFrom_spec n _ 0 (by omega) ?_
  rw [Nat.zero_add, ← Nat.pow_add]
  have := Nat.lt_log2_self (n := n)
  refine Nat.lt_of_lt_of_le this (Nat.pow_le_pow_right (by omega) (by omega))

/-- how far a root's number is shifted -/
def rootMore (m : Nat) (i : Int) : Nat := 108 - m.log2 + ((i - (108 - m.log2 : Nat)) % 2).toNat
def rootMag (m : Nat) (i : Int) : Nat := 2 * isqrt (m * 2 ^ rootMore m i) + (isqrt (m * 2 ^ rootMore m i) * isqrt (m * 2 ^ rootMore m i) != m * 2 ^ rootMore m i).toNat

theorem sqrt_datum {x : Nat} {m : Nat} {i : Int} (h : double.read x = .number false m i) (hm : m ≠ 0) :
    double.sqrt x = some (double.nearest false (rootMag m i) ((i - rootMore m i) / 2 - 1)) := by
  unfold Format.sqrt
  rw [h]
  simp only [Datum.root, hm, if_false, Nat.shiftLeft_eq]
  rfl

theorem rootMore_even (m : Nat) (i : Int) : 2 * ((i - rootMore m i) / 2) = i - rootMore m i := by
  unfold rootMore; omega

theorem root_big (m : Nat) (i : Int) (hm : m ≠ 0) : 2 ^ 54 ≤ isqrt (m * 2 ^ rootMore m i) := by
  have b2 := Nat.log2_self_le hm
  have h1 : 2 ^ 108 ≤ m * 2 ^ rootMore m i := by
    calc 2 ^ 108 ≤ 2 ^ (m.log2 + rootMore m i) := Nat.pow_le_pow_right (by omega) (by unfold rootMore; omega)
      _ = 2 ^ m.log2 * 2 ^ rootMore m i := Nat.pow_add ..
      _ ≤ m * 2 ^ rootMore m i := Nat.mul_le_mul_right _ b2
  obtain ⟨_, h2⟩ := isqrt_spec (m * 2 ^ rootMore m i)
  generalize m * 2 ^ rootMore m i = n at *
  generalize isqrt n = w at *
  by_cases c : 2 ^ 54 ≤ w
  · exact c
  · exfalso
    have : (w + 1) * (w + 1) ≤ 2 ^ 54 * 2 ^ 54 := Nat.mul_le_mul (by omega) (by omega)
    rw [← Nat.pow_add] at this
    omega

theorem root_near (m : Nat) (i : Int) (hm : m ≠ 0) :
    (rootMag m i * rootMag m i) * 2 ^ 53 ≤ 4 * (m * 2 ^ rootMore m i) * 2 ^ 53 + 4 * (m * 2 ^ rootMore m i) ∧
    4 * (m * 2 ^ rootMore m i) * 2 ^ 53 ≤ (rootMag m i * rootMag m i) * 2 ^ 53 + 4 * (m * 2 ^ rootMore m i) ∧
    (∀ k, k * k = m * 2 ^ rootMore m i → rootMag m i = 2 * k) := by
  have hb := root_big m i hm
  obtain ⟨h1, h2⟩ := isqrt_spec (m * 2 ^ rootMore m i)
  unfold rootMag
  generalize m * 2 ^ rootMore m i = n at *
  generalize isqrt n = w at *
  have ex : (w + 1) * (w + 1) = w * w + 2 * w + 1 := by grind
  rw [ex] at h2
  have hww : 2 ^ 54 * w ≤ w * w := Nat.mul_le_mul_right _ hb
  have hk : ∀ k, k * k = n → w = k := by
    intro k hk
    by_cases c : w < k
    · have := Nat.mul_le_mul (show w + 1 ≤ k by omega) (show w + 1 ≤ k by omega)
      rw [ex] at this
      omega
    · by_cases c2 : k < w
      · have := Nat.mul_le_mul (show k + 1 ≤ w by omega) (show k + 1 ≤ w by omega)
        have e2 : (k + 1) * (k + 1) = k * k + 2 * k + 1 := by grind
        rw [e2] at this
        omega
      · omega
  by_cases c : w * w = n
  · have : (w * w != n).toNat = 0 := by simp [c]
    rw [this, Nat.add_zero]
    have e3 : 2 * w * (2 * w) = 4 * (w * w) := by grind
    rw [e3, c]
    refine ⟨by omega, by omega, fun k hk' => ?_⟩
    rw [hk k hk']
  · have : (w * w != n).toNat = 1 := by simp [c]
    rw [this]
    have e3 : (2 * w + 1) * (2 * w + 1) = 4 * (w * w) + 4 * w + 1 := by grind
    rw [e3]
    refine ⟨?_, ?_, fun k hk' => absurd (show w * w = n by rw [hk k hk']; exact hk') c⟩
    · generalize w * w = W at *; omega
    · generalize w * w = W at *; omega

theorem rat_nonneg_sign {s : Bool} {m : Nat} {e : Int} (h : 0 ≤ rat s m e) : rat s m e = rat false m e := by
  cases s
  · rfl
  · rw [rat_true, rat_false] at *
    have := rat_pos m e
    grind

theorem rat_zero (s : Bool) (e : Int) : rat s 0 e = 0 := by unfold rat; rw [show ((0 : Nat) : Rat) = 0 from rfl, Rat.mul_zero, Rat.zero_mul]

theorem sq_near {q r h : Rat} (hq : 0 ≤ q) (h0 : 0 < h) (h1 : h ≤ 1 / 4) (h2 : q - q * h ≤ r) (h3 : r ≤ q + q * h) : 0 ≤ r ∧ q * q - 3 * (q * q * h) ≤ r * r ∧ r * r ≤ q * q + 3 * (q * q * h) := by
  have hqh : q * h ≤ q * (1 / 4) := Rat.mul_le_mul_of_nonneg_left h1 hq
  have hqh0 : 0 ≤ q * h := Rat.mul_nonneg hq (Rat.le_of_lt h0)
  have hr : 0 ≤ r := by grind
  have hA : 0 ≤ q - q * h := by grind
  have a1 : (q - q * h) * (q - q * h) ≤ r * r :=
    Rat.le_trans (Rat.mul_le_mul_of_nonneg_left h2 hA) (Rat.mul_le_mul_of_nonneg_right h2 hr)
  have a2 : r * r ≤ (q + q * h) * (q + q * h) :=
    Rat.le_trans (Rat.mul_le_mul_of_nonneg_left h3 hr) (Rat.mul_le_mul_of_nonneg_right h3 (by grind))
  have a3 : 0 ≤ q * h * (q * h) := Rat.mul_nonneg hqh0 hqh0
  have a4 : q * h * (q * h) ≤ q * h * q := Rat.mul_le_mul_of_nonneg_left (by grind) hqh0
  have a5 : 0 ≤ q * q * h := by
    have := Rat.mul_nonneg hq hqh0
    grind
  refine ⟨hr, ?_, ?_⟩ <;> grind

/-- SQUARE ROOTS: nearly, by their squares. -/
theorem sqrt_isV {x : Nat} {p : Rat} (hx : IsV x p) (hp : 0 ≤ p) (hM : p ≤ huge) :
    ∃ z r, double.sqrt x = some z ∧ IsV z r ∧ 0 ≤ r ∧ Within (r * r) p (8 * (p * eps)) := by
  obtain ⟨hx64, s, m, i, h, rfl⟩ := hx
  have ri := read_inv hx64 h
  by_cases hm : m = 0
  · subst hm
    rw [rat_zero]
    refine ⟨double.nearest s 0 i, 0, ?_, ?_, Rat.le_refl, ?_⟩
    · unfold Format.sqrt; rw [h]; rfl
    · exact write_few (rat_zero s i) (few_int (n := 0) (by decide))
    · unfold Within; constructor <;> grind
  · have hs : s = false := by
      cases s
      · rfl
      · exfalso
        rw [rat_true] at hp
        have hm' : (0 : Rat) < (m : Rat) := Rat.natCast_pos.2 (by omega)
        have := Rat.mul_pos hm' (zpow_pos i)
        grind
    subst hs
    have hd := sqrt_datum h hm
    obtain ⟨a1, a2, _⟩ := root_near m i hm
    have heven := rootMore_even m i
    have hmb : rootMore m i ≤ 109 := by unfold rootMore; omega
    have hbig := root_big m i hm
    have hW1 : 1 ≤ rootMag m i := by unfold rootMag; omega
    generalize hN : m * 2 ^ rootMore m i = n at *
    rw [rat_false] at hp hM ⊢
    have hpn : (m : Rat) * (2 : Rat) ^ i = (n : Rat) * ((2 : Rat) ^ ((i - rootMore m i) / 2) * (2 : Rat) ^ ((i - rootMore m i) / 2)) := by
      rw [← zpow_add, show (i - rootMore m i) / 2 + (i - rootMore m i) / 2 = i - rootMore m i by omega, ← hN, Rat.natCast_mul, ← zpow_nat]
      have : (2 : Rat) ^ i = (2 : Rat) ^ ((rootMore m i : Nat) : Int) * (2 : Rat) ^ (i - rootMore m i) := by rw [← zpow_add]; congr 1; omega
      rw [this]; grind
    generalize hhh : (i - (rootMore m i : Int)) / 2 = hh at *
    have hlow : -600 ≤ hh := by omega
    generalize hW : rootMag m i = W at *
    have hB2 : (2 : Rat) ^ hh = 2 * (2 : Rat) ^ (hh - 1) := by
      rw [show hh = 1 + (hh - 1) by omega, zpow_add, show 1 + (hh - 1) - 1 = hh - 1 by omega]
      have : (2 : Rat) ^ (1 : Int) = 2 := Rat.zpow_one 2
      rw [this]
    have hBp := zpow_pos (hh - 1)
    have htiny : tiny ≤ (W : Rat) * (2 : Rat) ^ (hh - 1) * eps := by
      have e1 : tiny ≤ (2 : Rat) ^ (hh - 1) * eps := by
        unfold tiny eps
        rw [← zpow_add]; exact zpow_le (by omega)
      have e2 : (1 : Rat) ≤ (W : Rat) := by
        have : ((1 : Nat) : Rat) ≤ (W : Rat) := Rat.natCast_le_natCast.2 hW1
        exact this
      have e3 : 0 ≤ (2 : Rat) ^ (hh - 1) * eps := Rat.mul_nonneg (Rat.le_of_lt hBp) (Rat.le_of_lt eps_pos)
      have e4 := Rat.mul_le_mul_of_nonneg_right e2 e3
      rw [Rat.mul_assoc]
      rw [Rat.one_mul] at e4
      exact Rat.le_trans e1 e4
    rw [hB2] at hpn
    generalize hB : (2 : Rat) ^ (hh - 1) = B at *
    obtain ⟨hf, hfp, heq, _, hf4⟩ := eps_half
    -- the square of what is written, before the last rounding
    have hsq : ∀ {P : Rat}, P = (n : Rat) * (2 * B * (2 * B)) → (W : Rat) * B * (W * B) ≤ P + P * eps ∧ P ≤ (W : Rat) * B * (W * B) + P * eps := by
      intro P hP
      have r1 : ((W * W * 2 ^ 53 : Nat) : Rat) ≤ ((4 * n * 2 ^ 53 + 4 * n : Nat) : Rat) := Rat.natCast_le_natCast.2 a1
      have r2 : ((4 * n * 2 ^ 53 : Nat) : Rat) ≤ ((W * W * 2 ^ 53 + 4 * n : Nat) : Rat) := Rat.natCast_le_natCast.2 a2
      rw [Rat.natCast_mul, Rat.natCast_mul, Rat.natCast_add, Rat.natCast_mul, Rat.natCast_mul] at r1
      rw [Rat.natCast_mul, Rat.natCast_mul, Rat.natCast_add, Rat.natCast_mul, Rat.natCast_mul, Rat.natCast_mul] at r2
      have four : ((4 : Nat) : Rat) = 4 := rfl
      rw [four] at r1 r2
      have h53 : ((2 ^ 53 : Nat) : Rat) * eps = 1 := by unfold eps; rw [← zpow_nat, ← zpow_add]; rfl
      generalize ((2 ^ 53 : Nat) : Rat) = T at *
      have hnn : 0 ≤ B * B * eps := Rat.mul_nonneg (Rat.mul_nonneg (Rat.le_of_lt hBp) (Rat.le_of_lt hBp)) (Rat.le_of_lt eps_pos)
      have s1 := Rat.mul_le_mul_of_nonneg_right r1 hnn
      have s2 := Rat.mul_le_mul_of_nonneg_right r2 hnn
      have f1 : (W : Rat) * W * T * (B * B * eps) = W * B * (W * B) * (T * eps) := by grind
      have f2 : (4 * (n : Rat) * T + 4 * n) * (B * B * eps) = P * (T * eps) + P * eps := by rw [hP]; grind
      have f3 : 4 * (n : Rat) * T * (B * B * eps) = P * (T * eps) := by rw [hP]; grind
      have f4 : ((W : Rat) * W * T + 4 * n) * (B * B * eps) = W * B * (W * B) * (T * eps) + P * eps := by rw [hP]; grind
      rw [f1, f2, h53, Rat.mul_one, Rat.mul_one] at s1
      rw [f3, f4, h53, Rat.mul_one, Rat.mul_one] at s2
      exact ⟨s1, s2⟩
    obtain ⟨q1, q2⟩ := hsq hpn
    generalize (m : Rat) * (2 : Rat) ^ i = P at *
    have hQ0 : 0 ≤ (W : Rat) * B := Rat.mul_nonneg Rat.natCast_nonneg (Rat.le_of_lt hBp)
    have hPe : P * eps ≤ P * (1 / 2) := Rat.mul_le_mul_of_nonneg_left (by grind) hp
    have hP0 : 0 ≤ P * eps := Rat.mul_nonneg hp (Rat.le_of_lt eps_pos)
    obtain ⟨r, g1, g2⟩ := nearest_isV false W (hh - 1) (fun hne => by
      have h1 : (W : Rat) * B ≤ (2 : Rat) ^ (1001 : Int) := by
        have h1001 : (2 : Rat) ^ (1001 : Int) = 2 * huge := by
          rw [huge_eq, show (1001 : Int) = 1 + 1000 by omega, zpow_add]
          have : (2 : Rat) ^ (1 : Int) = 2 := Rat.zpow_one 2
          rw [this]
        rw [h1001]
        have h1h : 1 ≤ huge := by
          rw [huge_eq]
          have := zpow_le (a := 0) (b := 1000) (by omega)
          rw [Rat.zpow_zero] at this
          exact this
        -- a number is at most 1 or at most its square
        by_cases c : (W : Rat) * B ≤ 1
        · grind
        · have := Rat.mul_le_mul_of_nonneg_left (show 1 ≤ (W : Rat) * B by grind) hQ0
          grind
      rw [← hB] at h1
      have := log2_of_bound hne h1
      omega)
    unfold Within at g2
    rw [rat_false, hB] at g2
    generalize (W : Rat) * B = Q at *
    obtain ⟨g3, g4⟩ := g2
    have hge : Q - Q * (2 * eps) ≤ r := by grind
    have hle : r ≤ Q + Q * (2 * eps) := by grind
    have h2e : 2 * eps ≤ 1 / 4 := by grind
    obtain ⟨hr0, z1, z2⟩ := sq_near hQ0 (by grind) h2e hge hle
    refine ⟨_, r, hd, g1, hr0, ?_⟩
    have z3 : Q * Q * (2 * eps) ≤ (P + P * eps) * (2 * eps) := Rat.mul_le_mul_of_nonneg_right q1 (by grind)
    have z4 : P * eps * (2 * eps) ≤ P * eps * (1 / 4) := Rat.mul_le_mul_of_nonneg_left h2e hP0
    unfold Within
    constructor <;> grind

/-- SQUARE ROOTS: of a square, the number itself. -/
theorem sqrt_exact {x : Nat} {p v : Rat} (hx : IsV x p) (hv : 0 ≤ v) (hp : p = v * v) (hf : Few v) : ∃ z, double.sqrt x = some z ∧ IsV z v := by
  obtain ⟨hx64, s, m, i, h, hr⟩ := hx
  by_cases hm : m = 0
  · subst hm
    rw [rat_zero] at hr
    have hv0 : v = 0 := by
      have : v * v = 0 := by rw [← hp, ← hr]
      rcases Rat.mul_eq_zero.1 this with c | c <;> exact c
    subst hv0
    exact ⟨double.nearest s 0 i, by unfold Format.sqrt; rw [h]; rfl, write_few (rat_zero s i) hf⟩
  · have hs : s = false := by
      cases s
      · rfl
      · exfalso
        rw [rat_true] at hr
        have hm' : (0 : Rat) < (m : Rat) := Rat.natCast_pos.2 (by omega)
        have h1 := Rat.mul_pos hm' (zpow_pos i)
        have h2 := Rat.mul_nonneg hv hv
        grind
    subst hs
    have hd := sqrt_datum h hm
    refine ⟨_, hd, ?_⟩
    obtain ⟨_, _, a3⟩ := root_near m i hm
    have heven := rootMore_even m i
    have hbig := root_big m i hm
    obtain ⟨hsq1, hsq2⟩ := isqrt_spec (m * 2 ^ rootMore m i)
    obtain ⟨u, k, l, hk, hl1, hl2, hkv⟩ := hf
    have hfew : Few v := ⟨u, k, l, hk, hl1, hl2, hkv⟩
    have hvk : v = (k : Rat) * (2 : Rat) ^ l := by rw [hkv] at hv ⊢; rw [rat_nonneg_sign hv, rat_false]
    refine write_few ?_ hfew
    rw [rat_false] at hr ⊢
    generalize hN : m * 2 ^ rootMore m i = n at *
    have hpn : (m : Rat) * (2 : Rat) ^ i = (n : Rat) * (2 : Rat) ^ (i - rootMore m i) := by
      rw [← hN, Rat.natCast_mul, ← zpow_nat]
      have : (2 : Rat) ^ i = (2 : Rat) ^ ((rootMore m i : Nat) : Int) * (2 : Rat) ^ (i - rootMore m i) := by rw [← zpow_add]; congr 1; omega
      rw [this]; grind
    have hkk : ((k * k : Nat) : Rat) * (2 : Rat) ^ (l + l) = (n : Rat) * (2 : Rat) ^ (i - rootMore m i) := by
      rw [← hpn, hr, hp, hvk, Rat.natCast_mul, zpow_add]; grind
    rw [← heven] at hkk
    generalize hhh : (i - (rootMore m i : Int)) / 2 = hh at *
    by_cases c : hh ≤ l
    · have e := rat_same hkk.symm (by omega)
      have e2 : (l + l - 2 * hh).toNat = (l - hh).toNat + (l - hh).toNat := by omega
      rw [e2, Nat.pow_add] at e
      have e3 := a3 (k * 2 ^ (l - hh).toNat) (by rw [e]; grind)
      rw [e3, hvk, Rat.natCast_mul, Rat.natCast_mul, ← zpow_nat]
      have e4 : (2 : Rat) ^ l = (2 : Rat) ^ ((l - hh).toNat : Int) * (2 : Rat) ^ hh := by rw [← zpow_add]; congr 1; omega
      have hB2 : (2 : Rat) ^ hh = 2 * (2 : Rat) ^ (hh - 1) := by
        rw [show hh = 1 + (hh - 1) by omega, zpow_add, show 1 + (hh - 1) - 1 = hh - 1 by omega]
        have : (2 : Rat) ^ (1 : Int) = 2 := Rat.zpow_one 2
        rw [this]
      rw [e4, hB2]
      have two : ((2 : Nat) : Rat) = 2 := rfl
      rw [two]; grind
    · exfalso
      have e := rat_same hkk (by omega)
      have h1 : isqrt n * isqrt n ≤ k * k := by
        rw [e]
        exact Nat.le_trans hsq1 (Nat.le_mul_of_pos_right _ (Nat.two_pow_pos _))
      have h2 : k * k < isqrt n * isqrt n := Nat.mul_lt_mul'' (by omega) (by omega)
      omega
open Go

/-! ### The program's operations on floats, as functions of bits -/

/-- is the operation one whose result the language fixes? -/
def FOk (op : BinOp) (x y : Nat) : Prop := (floatBits op .f64 x y).isSome = true
def fop (op : BinOp) (x y : Nat) : Nat := (floatBits op .f64 x y).getD 0

theorem run_fop {P : Program} {op : BinOp} {t : TypeId} {x y : Nat} (w : World) (h : FOk op x y) :
    (binOp op t (.float .f64 x) (.float .f64 y)).run P w = .ok (.float .f64 (fop op x y)) w := by
  obtain ⟨r, hr⟩ := Option.isSome_iff_exists.1 h
  have : fop op x y = r := by unfold fop; rw [hr]; rfl
  rw [this]
  exact run_float_arith w op t .f64 x y r hr

/-- the word of a whole number -/
def fl (n : Int) : Nat := floatOfInt .f64 n

theorem fl_isV {n : Int} (h : n.natAbs < 2 ^ 53) : IsV (fl n) (n : Rat) := by
  show IsV (double.nearest (decide (n < 0)) n.natAbs 0) n
  refine write_few ?_ (few_int h)
  unfold rat
  rw [Rat.zpow_zero, Rat.mul_one]
  by_cases c : n < 0
  · have : (n.natAbs : Int) = -n := by omega
    rw [← Rat.intCast_natCast, this, Rat.intCast_neg]; simp [c]; grind
  · have : (n.natAbs : Int) = n := by omega
    rw [← Rat.intCast_natCast, this]; simp [c]

theorem fop_of {op : BinOp} {x y z : Nat} (h : floatBits op .f64 x y = some z) : FOk op x y ∧ fop op x y = z := by
  unfold FOk fop; rw [h]; exact ⟨rfl, rfl⟩

section
variable {x y : Nat} {p q : Rat}

theorem add_few (hx : IsV x p) (hy : IsV y q) (hf : Few (p + q)) : FOk .add x y ∧ IsV (fop .add x y) (p + q) := by
  obtain ⟨s, m, e, h1, h2⟩ := add_datum hx hy
  obtain ⟨a, b⟩ := fop_of (op := .add) h1
  exact ⟨a, b ▸ write_few h2 hf⟩
theorem sub_few (hx : IsV x p) (hy : IsV y q) (hf : Few (p - q)) : FOk .sub x y ∧ IsV (fop .sub x y) (p - q) := by
  obtain ⟨s, m, e, h1, h2⟩ := sub_datum hx hy
  obtain ⟨a, b⟩ := fop_of (op := .sub) h1
  exact ⟨a, b ▸ write_few h2 hf⟩
theorem mul_few (hx : IsV x p) (hy : IsV y q) (hf : Few (p * q)) : FOk .mul x y ∧ IsV (fop .mul x y) (p * q) := by
  obtain ⟨s, m, e, h1, h2⟩ := mul_datum hx hy
  obtain ⟨a, b⟩ := fop_of (op := .mul) h1
  exact ⟨a, b ▸ write_few h2 hf⟩
theorem quo_few {v : Rat} (hx : IsV x p) (hy : IsV y q) (hq : q ≠ 0) (hv : v * q = p) (hf : Few v) : FOk .quo x y ∧ IsV (fop .quo x y) v := by
  obtain ⟨z, h1, h2⟩ := div_exact hx hy hq hv hf
  obtain ⟨a, b⟩ := fop_of (op := .quo) h1
  exact ⟨a, b ▸ h2⟩

theorem add_near {M : Rat} (hx : IsV x p) (hy : IsV y q) (hM : Mag (p + q) M) (hh : M ≤ huge) : ∃ r, FOk .add x y ∧ IsV (fop .add x y) r ∧ Within r (p + q) (M * eps + tiny) := by
  obtain ⟨s, m, e, h1, h2⟩ := add_datum hx hy
  obtain ⟨a, b⟩ := fop_of (op := .add) h1
  obtain ⟨r, h3, h4⟩ := write_isV h2 hM hh
  exact ⟨r, a, b ▸ h3, h4⟩
theorem sub_near {M : Rat} (hx : IsV x p) (hy : IsV y q) (hM : Mag (p - q) M) (hh : M ≤ huge) : ∃ r, FOk .sub x y ∧ IsV (fop .sub x y) r ∧ Within r (p - q) (M * eps + tiny) := by
  obtain ⟨s, m, e, h1, h2⟩ := sub_datum hx hy
  obtain ⟨a, b⟩ := fop_of (op := .sub) h1
  obtain ⟨r, h3, h4⟩ := write_isV h2 hM hh
  exact ⟨r, a, b ▸ h3, h4⟩
theorem mul_near {M : Rat} (hx : IsV x p) (hy : IsV y q) (hM : Mag (p * q) M) (hh : M ≤ huge) : ∃ r, FOk .mul x y ∧ IsV (fop .mul x y) r ∧ Within r (p * q) (M * eps + tiny) := by
  obtain ⟨s, m, e, h1, h2⟩ := mul_datum hx hy
  obtain ⟨a, b⟩ := fop_of (op := .mul) h1
  obtain ⟨r, h3, h4⟩ := write_isV h2 hM hh
  exact ⟨r, a, b ▸ h3, h4⟩
theorem quo_near {M : Rat} (hx : IsV x p) (hy : IsV y q) (hq : q ≠ 0) (hM : Mag (p / q) M) (hh : 2 * M ≤ huge) : ∃ r, FOk .quo x y ∧ IsV (fop .quo x y) r ∧ Within r (p / q) (2 * (M * eps) + 2 * tiny) := by
  obtain ⟨z, r, h1, h2, h3⟩ := div_isV hx hy hq hM hh
  obtain ⟨a, b⟩ := fop_of (op := .quo) h1
  exact ⟨r, a, b ▸ h2, h3⟩

/-! whole numbers -/
variable {a b : Int}
theorem add_int (hx : IsV x a) (hy : IsV y b) (h : (a + b).natAbs < 2 ^ 53) : FOk .add x y ∧ IsV (fop .add x y) ((a + b : Int) : Rat) := by
  have := add_few hx hy (by rw [← Rat.intCast_add]; exact few_int h)
  rwa [← Rat.intCast_add] at this
theorem sub_int (hx : IsV x a) (hy : IsV y b) (h : (a - b).natAbs < 2 ^ 53) : FOk .sub x y ∧ IsV (fop .sub x y) ((a - b : Int) : Rat) := by
  have := sub_few hx hy (by rw [← Rat.intCast_sub]; exact few_int h)
  rwa [← Rat.intCast_sub] at this
theorem mul_int (hx : IsV x a) (hy : IsV y b) (h : (a * b).natAbs < 2 ^ 53) : FOk .mul x y ∧ IsV (fop .mul x y) ((a * b : Int) : Rat) := by
  have := mul_few hx hy (by rw [← Rat.intCast_mul]; exact few_int h)
  rwa [← Rat.intCast_mul] at this
end

/-! ### Comparisons -/
def ltF (x y : Nat) : Bool := FloatKind.f64.format.order x y == some .lt
def eqF (x y : Nat) : Bool := FloatKind.f64.format.order x y == some .eq
def gtF (x y : Nat) : Bool := FloatKind.f64.format.order x y == some .gt
def leF (x y : Nat) : Bool := ltF x y || eqF x y
def geF (x y : Nat) : Bool := gtF x y || eqF x y
def neF (x y : Nat) : Bool := !eqF x y
theorem cmp_eql (t : TypeId) (a b : Nat) : binOp .eql t (.float .f64 a) (.float .f64 b) = pure (.bool (eqF a b)) := binOp_float_cmp_eql t .f64 a b
theorem cmp_neq (t : TypeId) (a b : Nat) : binOp .neq t (.float .f64 a) (.float .f64 b) = pure (.bool (neF a b)) := binOp_float_cmp_neq t .f64 a b
theorem cmp_lss (t : TypeId) (a b : Nat) : binOp .lss t (.float .f64 a) (.float .f64 b) = pure (.bool (ltF a b)) := binOp_float_cmp_lss t .f64 a b
theorem cmp_leq (t : TypeId) (a b : Nat) : binOp .leq t (.float .f64 a) (.float .f64 b) = pure (.bool (leF a b)) := binOp_float_cmp_leq t .f64 a b
theorem cmp_gtr (t : TypeId) (a b : Nat) : binOp .gtr t (.float .f64 a) (.float .f64 b) = pure (.bool (gtF a b)) := binOp_float_cmp_gtr t .f64 a b
theorem cmp_geq (t : TypeId) (a b : Nat) : binOp .geq t (.float .f64 a) (.float .f64 b) = pure (.bool (geF a b)) := binOp_float_cmp_geq t .f64 a b
theorem ltF_isV {x y : Nat} {p q : Rat} (hx : IsV x p) (hy : IsV y q) : ltF x y = decide (p < q) := isV_lt hx hy
theorem eqF_isV {x y : Nat} {p q : Rat} (hx : IsV x p) (hy : IsV y q) : eqF x y = decide (p = q) := isV_eq hx hy
theorem gtF_isV {x y : Nat} {p q : Rat} (hx : IsV x p) (hy : IsV y q) : gtF x y = decide (q < p) := isV_gt hx hy
theorem ltF_int {x y : Nat} {a b : Int} (hx : IsV x a) (hy : IsV y b) : ltF x y = decide (a < b) := by
  rw [ltF_isV hx hy]; exact decide_eq_decide.2 Rat.intCast_lt_intCast
theorem leF_isV {x y : Nat} {p q : Rat} (hx : IsV x p) (hy : IsV y q) : leF x y = decide (p ≤ q) := by
  unfold leF; rw [ltF_isV hx hy, eqF_isV hx hy, ← Bool.decide_or]; exact decide_eq_decide.2 Rat.le_iff_lt_or_eq.symm
theorem geF_isV {x y : Nat} {p q : Rat} (hx : IsV x p) (hy : IsV y q) : geF x y = decide (q ≤ p) := by
  unfold geF; rw [gtF_isV hx hy, eqF_isV hx hy, ← Bool.decide_or]; exact decide_eq_decide.2 (by rw [Rat.le_iff_lt_or_eq]; constructor <;> (rintro (h | h) <;> first | exact .inl h | exact .inr h.symm))
theorem neF_isV {x y : Nat} {p q : Rat} (hx : IsV x p) (hy : IsV y q) : neF x y = decide (p ≠ q) := by
  unfold neF; rw [eqF_isV hx hy, ← decide_not]
theorem leF_int {x y : Nat} {a b : Int} (hx : IsV x a) (hy : IsV y b) : leF x y = decide (a ≤ b) := by
  rw [leF_isV hx hy]; exact decide_eq_decide.2 Rat.intCast_le_intCast
theorem geF_int {x y : Nat} {a b : Int} (hx : IsV x a) (hy : IsV y b) : geF x y = decide (b ≤ a) := by
  rw [geF_isV hx hy]; exact decide_eq_decide.2 Rat.intCast_le_intCast
theorem neF_int {x y : Nat} {a b : Int} (hx : IsV x a) (hy : IsV y b) : neF x y = decide (a ≠ b) := by
  rw [neF_isV hx hy]; exact decide_eq_decide.2 (by rw [Ne, Ne, Rat.intCast_inj])
theorem eqF_int {x y : Nat} {a b : Int} (hx : IsV x a) (hy : IsV y b) : eqF x y = decide (a = b) := by
  rw [eqF_isV hx hy]; exact decide_eq_decide.2 Rat.intCast_inj
theorem gtF_int {x y : Nat} {a b : Int} (hx : IsV x a) (hy : IsV y b) : gtF x y = decide (b < a) := by
  rw [gtF_isV hx hy]; exact decide_eq_decide.2 Rat.intCast_lt_intCast

/-! ### Magnitude, sign, cutting -/
def absF (x : Nat) : Nat := (bits BinOp.andNot IntKind.u64 x 9223372036854775808).toNat

theorem absF_eq {x : Nat} (h : x < 2 ^ 64) : absF x = x % 2 ^ 63 := by
  unfold absF
  have e : (9223372036854775808 : Int) = ((9223372036854775808 : Nat) : Int) := rfl
  rw [e, u64_andNot_nat x 9223372036854775808 (by omega) (by omega)]
  rw [show 18446744073709551615 - 9223372036854775808 = 2 ^ 63 - 1 by rfl, Nat.and_two_pow_sub_one_eq_mod]
  rfl

theorem absF_isV {x : Nat} {q : Rat} (hx : IsV x q) : IsV (absF x) (if q < 0 then -q else q) := by
  obtain ⟨h64, s, m, e, h, rfl⟩ := hx
  obtain ⟨a1, a2, a3, a4, a5⟩ := read_inv h64 h
  have hr : (e + 1074).toNat * 2 ^ 52 + m < 2047 * 2 ^ 52 := by omega
  obtain ⟨_, w2, _⟩ := word_split s ((e + 1074).toNat * 2 ^ 52 + m) (by omega)
  rw [absF_eq h64]
  have e1 : x % 2 ^ 63 = double.word false ((e + 1074).toNat * 2 ^ 52 + m) := by rw [a1, w2]; rfl
  rw [e1]
  have hg := rung_read false (e + 1074).toNat m (by omega) (by omega) hr
  rw [show (((e + 1074).toNat : Int) - 1074) = e by omega] at hg
  have hp := rat_pos m e
  cases s
  · rw [rat_false] at *
    rw [if_neg (by grind)]; exact hg
  · rw [rat_true, rat_false] at *
    by_cases c : -((m : Rat) * (2 : Rat) ^ e) < 0
    · rw [if_pos c]; rwa [Rat.neg_neg]
    · rw [if_neg c]
      have hz : (m : Rat) * (2 : Rat) ^ e = 0 := by grind
      rw [hz] at hg ⊢
      rwa [Rat.neg_zero]


theorem absF_int {x : Nat} {a : Int} (hx : IsV x a) : IsV (absF x) ((a.natAbs : Int) : Rat) := by
  have := absF_isV hx
  by_cases c : (a : Rat) < 0
  · rw [if_pos c] at this
    have h0 : a < 0 := by rw [show (0 : Rat) = ((0 : Int) : Rat) from rfl] at c; exact Rat.intCast_lt_intCast.1 c
    rw [show (a.natAbs : Int) = -a by omega, Rat.intCast_neg]; exact this
  · rw [if_neg c] at this
    have h0 : ¬ a < 0 := by
      intro h; apply c; rw [show (0 : Rat) = ((0 : Int) : Rat) from rfl]; exact Rat.intCast_lt_intCast.2 h
    rw [show (a.natAbs : Int) = a by omega]; exact this

/-- what is left of a number cut towards nought -/
def truncF (x : Nat) : Nat := match FloatKind.f64.decode x with
  | .nan _ _ => x
  | d => FloatKind.f64.encode (d.integral .zero)

theorem cut_zero_le (neg : Bool) (n d : Nat) : Toward.zero.cut neg n d ≤ n := by
  unfold Toward.cut
  simp only [Bool.toNat_false, Nat.add_zero]
  exact Nat.div_le_self _ _

/-- the sign bit, as the program asks for it -/
def signF (x : Nat) : Bool := decide (IntKind.i64.wrap (x : Int) < 0)
theorem signF_eq {x : Nat} (_h : x < 2 ^ 64) : signF x = negF x := by
  unfold signF negF IntKind.wrap
  have e : ((2 : Int) ^ IntKind.i64.bits) = 18446744073709551616 := rfl
  have e2 : ((2 : Int) ^ (IntKind.i64.bits - 1)) = 9223372036854775808 := rfl
  have e3 : IntKind.i64.signed = true := rfl
  rw [e, e2, e3]
  simp only [Bool.true_and, decide_eq_true_eq]
  rw [Bool.eq_iff_iff]
  simp only [decide_eq_true_eq, beq_iff_eq]
  split <;> omega

/-- IsWhole, as the program asks for it; a number alone can be whole -/
def wholeB (x : Nat) : Bool := match FloatKind.f64.decode x with
  | .number _ _ _ => eqF x (truncF x) && leF (absF x) 4652007308841189376 && (neF x 0 || !signF x)
  | _ => false

theorem isV_const {b : Nat} {q : Rat} (hb : b < 2 ^ 64) {s : Bool} {m : Nat} {e : Int} (h : double.read b = .number s m e) (hq : rat s m e = q) : IsV b q := ⟨hb, s, m, e, h, hq⟩

theorem thousand_isV : IsV 4652007308841189376 ((1000 : Int) : Rat) := by
  have h := fl_isV (n := 1000) (by decide)
  have : fl 1000 = 4652007308841189376 := by decide +kernel
  rwa [this] at h
theorem zero_isV : IsV 0 ((0 : Int) : Rat) := by
  have h := fl_isV (n := 0) (by decide)
  have : fl 0 = 0 := by decide +kernel
  rwa [this] at h

theorem truncF_int {x : Nat} {q : Rat} (hx : IsV x q) (he : eqF x (truncF x) = true) : ∃ n : Int, q = n := by
  obtain ⟨h64, s, m, e, h, hq⟩ := hx
  obtain ⟨a1, a2, a3, a4, a5⟩ := read_inv h64 h
  by_cases c : 0 ≤ e
  · -- it is whole anyhow
    refine ⟨if s then -((m * 2 ^ e.toNat : Nat) : Int) else ((m * 2 ^ e.toNat : Nat) : Int), ?_⟩
    rw [← hq]
    have ee : (2 : Rat) ^ e = ((2 ^ e.toNat : Nat) : Rat) := by rw [← zpow_nat]; congr 1; omega
    cases s
    · rw [rat_false, ee, if_neg (by decide), Rat.intCast_natCast, Rat.natCast_mul]
    · rw [rat_true, ee, if_pos rfl, Rat.intCast_neg, Rat.intCast_natCast, Rat.natCast_mul]
  · have hd : FloatKind.f64.decode x = .number s m e := h
    have ht : truncF x = double.nearest s (Toward.zero.cut s (m <<< e.toNat) (-e).toNat) 0 := by
      unfold truncF; rw [hd]; rfl
    have e0 : e.toNat = 0 := by omega
    rw [e0, Nat.shiftLeft_zero] at ht
    generalize hk : Toward.zero.cut s m (-e).toNat = k at *
    have hkm : k < 2 ^ 53 := by have := cut_zero_le s m (-e).toNat; omega
    have hv : IsV (truncF x) (rat s k 0) := by
      rw [ht]; exact write_few rfl ⟨s, k, 0, hkm, by omega, by omega, rfl⟩
    rw [eqF_isV ⟨h64, s, m, e, h, hq⟩ hv] at he
    have := of_decide_eq_true he
    rw [this]
    refine ⟨if s then -(k : Int) else (k : Int), ?_⟩
    cases s
    · rw [rat_false, Rat.zpow_zero, if_neg (by decide), Rat.intCast_natCast, Rat.mul_one]
    · rw [rat_true, Rat.zpow_zero, if_pos rfl, Rat.intCast_neg, Rat.intCast_natCast, Rat.mul_one]

/-- WHOLE NUMBERS: what the test says. -/
theorem wholeB_int {x : Nat} (h64 : x < 2 ^ 64) (h : wholeB x = true) : ∃ n : Int, IsV x n ∧ -1000 ≤ n ∧ n ≤ 1000 ∧ x = fl n := by
  unfold wholeB at h
  split at h
  · rename_i s m e hd
    simp only [Bool.and_eq_true, Bool.or_eq_true, Bool.not_eq_true'] at h
    obtain ⟨⟨h1, h2⟩, h3⟩ := h
    have hx : IsV x (rat s m e) := ⟨h64, s, m, e, hd, rfl⟩
    obtain ⟨n, hn⟩ := truncF_int hx h1
    rw [hn] at hx
    have ha := absF_int hx
    rw [leF_int ha thousand_isV] at h2
    simp only [decide_eq_true_eq] at h2
    have hb : -1000 ≤ n ∧ n ≤ 1000 := by omega
    refine ⟨n, hx, hb.1, hb.2, ?_⟩
    by_cases c : n = 0
    · subst c
      rw [neF_int hx zero_isV, signF_eq h64] at h3
      have h4 : negF x = false := by
        rcases h3 with h3 | h3
        · simp at h3
        · exact h3
      rw [isV_zero hx h4]
      decide +kernel
    · refine isV_bits hx (fl_isV (by omega)) ?_
      intro hz
      exact c (Rat.intCast_inj.1 hz)
  · cases h

/-! ### The lesser and the greater -/
def pickF (neg : Bool) (win : Ordering) (x y : Nat) : Nat :=
  let a := FloatKind.f64.decode x
  let b := FloatKind.f64.decode y
  if a == .infinity neg || b == .infinity neg then FloatKind.f64.encode (.infinity neg)
  else if a.isNaN || b.isNaN then 0x7FF8000000000001
  else if a.isZero && b.isZero then (if a.neg == neg then x else y)
  else if a.order b == some win then x else y
def minF (x y : Nat) : Nat := pickF true .lt x y
def maxF (x y : Nat) : Nat := pickF false .gt x y

theorem pickF_isV {neg : Bool} {win : Ordering} {x y : Nat} {p q : Rat} (hx : IsV x p) (hy : IsV y q) :
    pickF neg win x y = x ∧ (p = q ∨ (FloatKind.f64.format.order x y == some win) = true) ∨ pickF neg win x y = y ∧ (p = q ∨ (FloatKind.f64.format.order x y == some win) = false) := by
  obtain ⟨lx, s, m, e, h, h1⟩ := hx
  obtain ⟨ly, t, n, j, h', h2⟩ := hy
  have d1 : FloatKind.f64.decode x = .number s m e := h
  have d2 : FloatKind.f64.decode y = .number t n j := h'
  have ho : FloatKind.f64.format.order x y = (Datum.number s m e).order (.number t n j) := by
    show (double.read x).order (double.read y) = _; rw [h, h']
  unfold pickF
  rw [d1, d2]
  have i1 : ((Datum.number s m e) == .infinity neg) = false := by simp
  have i2 : ((Datum.number t n j) == .infinity neg) = false := by simp
  simp only [i1, i2, Bool.or_false, Bool.false_eq_true, if_false, Datum.isNaN]
  by_cases hz : ((Datum.number s m e).isZero && (Datum.number t n j).isZero) = true
  · rw [if_pos hz]
    have hpq : p = q := by
      simp only [Bool.and_eq_true] at hz
      obtain ⟨z1, z2⟩ := hz
      have m0 : m = 0 := by
        simp only [Datum.isZero] at z1
        split at z1 <;> simp_all
      have n0 : n = 0 := by
        simp only [Datum.isZero] at z2
        split at z2 <;> simp_all
      subst m0 n0
      rw [← h1, ← h2, rat_zero, rat_zero]
    split
    · exact .inl ⟨rfl, .inl hpq⟩
    · exact .inr ⟨rfl, .inl hpq⟩
  · rw [if_neg hz, ← ho]
    by_cases c : (FloatKind.f64.format.order x y == some win) = true
    · rw [if_pos c]; exact .inl ⟨rfl, .inr c⟩
    · rw [if_neg c]; exact .inr ⟨rfl, .inr (by simpa using c)⟩

theorem minF_isV {x y : Nat} {p q : Rat} (hx : IsV x p) (hy : IsV y q) : IsV (minF x y) (if p < q then p else q) := by
  rcases pickF_isV (neg := true) (win := .lt) hx hy with ⟨h1, h2⟩ | ⟨h1, h2⟩
  · unfold minF; rw [h1]
    rcases h2 with h2 | h2
    · subst h2; rw [if_neg Rat.lt_irrefl]; exact hx
    · have : decide (p < q) = true := (ltF_isV hx hy).symm.trans h2
      rw [if_pos (of_decide_eq_true this)]; exact hx
  · unfold minF; rw [h1]
    rcases h2 with h2 | h2
    · subst h2; rw [if_neg Rat.lt_irrefl]; exact hy
    · have : decide (p < q) = false := (ltF_isV hx hy).symm.trans h2
      rw [if_neg (of_decide_eq_false this)]; exact hy
theorem maxF_isV {x y : Nat} {p q : Rat} (hx : IsV x p) (hy : IsV y q) : IsV (maxF x y) (if q < p then p else q) := by
  rcases pickF_isV (neg := false) (win := .gt) hx hy with ⟨h1, h2⟩ | ⟨h1, h2⟩
  · unfold maxF; rw [h1]
    rcases h2 with h2 | h2
    · subst h2; rw [if_neg Rat.lt_irrefl]; exact hx
    · have : decide (q < p) = true := (gtF_isV hx hy).symm.trans h2
      rw [if_pos (of_decide_eq_true this)]; exact hx
  · unfold maxF; rw [h1]
    rcases h2 with h2 | h2
    · subst h2; rw [if_neg Rat.lt_irrefl]; exact hy
    · have : decide (q < p) = false := (gtF_isV hx hy).symm.trans h2
      rw [if_neg (of_decide_eq_false this)]; exact hy
theorem minF_int {x y : Nat} {a b : Int} (hx : IsV x a) (hy : IsV y b) : IsV (minF x y) ((min a b : Int) : Rat) := by
  have := minF_isV hx hy
  by_cases c : a < b
  · rw [if_pos (Rat.intCast_lt_intCast.2 c)] at this; rw [show min a b = a by omega]; exact this
  · rw [if_neg (fun h => c (Rat.intCast_lt_intCast.1 h))] at this; rw [show min a b = b by omega]; exact this
theorem maxF_int {x y : Nat} {a b : Int} (hx : IsV x a) (hy : IsV y b) : IsV (maxF x y) ((max a b : Int) : Rat) := by
  have := maxF_isV hx hy
  by_cases c : b < a
  · rw [if_pos (Rat.intCast_lt_intCast.2 c)] at this; rw [show max a b = a by omega]; exact this
  · rw [if_neg (fun h => c (Rat.intCast_lt_intCast.1 h))] at this; rw [show max a b = b by omega]; exact this

/-! ### Roots, as the program takes them -/
def sqrtF (x : Nat) : Nat := (FloatKind.f64.format.sqrt x).getD 0
def SOk (x : Nat) : Prop := (FloatKind.f64.format.sqrt x).isSome = true
theorem sqrtF_of {x z : Nat} (h : double.sqrt x = some z) : SOk x ∧ sqrtF x = z := by
  have h' : FloatKind.f64.format.sqrt x = some z := h
  unfold SOk sqrtF; rw [h']; exact ⟨rfl, rfl⟩
theorem sqrtF_near {x : Nat} {p : Rat} (hx : IsV x p) (hp : 0 ≤ p) (hM : p ≤ huge) : SOk x ∧ ∃ r, IsV (sqrtF x) r ∧ 0 ≤ r ∧ Within (r * r) p (8 * (p * eps)) := by
  obtain ⟨z, r, h1, h2, h3, h4⟩ := sqrt_isV hx hp hM
  obtain ⟨a, b⟩ := sqrtF_of h1
  exact ⟨a, r, b ▸ h2, h3, h4⟩
theorem sqrtF_exact {x : Nat} {p v : Rat} (hx : IsV x p) (hv : 0 ≤ v) (hp : p = v * v) (hf : Few v) : SOk x ∧ IsV (sqrtF x) v := by
  obtain ⟨z, h1, h2⟩ := sqrt_exact hx hv hp hf
  obtain ⟨a, b⟩ := sqrtF_of h1
  exact ⟨a, b ▸ h2⟩
end PubFl
