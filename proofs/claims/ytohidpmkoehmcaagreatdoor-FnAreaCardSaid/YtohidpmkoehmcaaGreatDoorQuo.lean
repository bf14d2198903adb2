/-
  The quotient's word depends on the quotient alone: plain facts.
-/
import Derived.Test.YtohidpmkoehmcaaGreatDoorFl
set_option linter.all false
namespace PubFl
open Ieee Go

/-- a quotient, with a digit for what is left over -/
def stick (A B : Nat) : Nat := 2 * (A / B) + (A % B != 0).toNat
theorem stick_mul (k A B : Nat) (hk : k ≠ 0) : stick (k * A) (k * B) = stick A B := by
  unfold stick
  have hk' : 0 < k := by omega
  rw [Nat.mul_div_mul_left _ _ hk', Nat.mul_mod_mul_left]
  have e : (k * (A % B) != 0) = (A % B != 0) := by
    by_cases h : A % B = 0
    · rw [h, Nat.mul_zero]
    · have : k * (A % B) ≠ 0 := Nat.mul_ne_zero hk h
      rw [bne_iff_ne.2 this, bne_iff_ne.2 h]
  rw [e]
theorem stick_eq {A B C D : Nat} (hB : B ≠ 0) (hD : D ≠ 0) (h : A * D = C * B) : stick A B = stick C D := by
  rw [← stick_mul D A B hD, ← stick_mul B C D hB, Nat.mul_comm D A, h, Nat.mul_comm C B, Nat.mul_comm D B]
theorem cut_eq (neg : Bool) (N d : Nat) (h : d ≤ N.log2 + 2) : Toward.even.cut neg N d = N / 2 ^ d + (decide (2 ^ d < 2 * (N % 2 ^ d)) || 2 ^ d == 2 * (N % 2 ^ d) && N / 2 ^ d % 2 == 1).toNat := by
  unfold Toward.cut
  simp only [Nat.one_shiftLeft]
  rw [Nat.min_eq_left h]
theorem cut_stick (neg : Bool) (f c d : Nat) (hc : c ≤ 3) (hd : 2 ≤ d) (h1 : d + 1 ≤ (4 * f + c).log2 + 2) (h2 : d ≤ (2 * f + (c != 0).toNat).log2 + 2) :
    Toward.even.cut neg (4 * f + c) (d + 1) = Toward.even.cut neg (2 * f + (c != 0).toNat) d := by
  rw [cut_eq _ _ _ h1, cut_eq _ _ _ h2]
  obtain ⟨e, rfl⟩ : ∃ e, d = e + 2 := ⟨d - 2, by omega⟩
  have e1 : 2 ^ (e + 2 + 1) = 8 * 2 ^ e := by rw [Nat.pow_add, Nat.pow_add]; omega
  have e2 : 2 ^ (e + 2) = 4 * 2 ^ e := by rw [Nat.pow_add]; omega
  rw [e1, e2]
  have hp : 0 < 2 ^ e := Nat.two_pow_pos e
  generalize 2 ^ e = h at *
  clear h1 h2 e1 e2
  have hf := Nat.div_add_mod f (2 * h)
  have hr := Nat.mod_lt f (show 2 * h > 0 by omega)
  generalize f / (2 * h) = q at *
  generalize f % (2 * h) = r at *
  have hs : (c != 0).toNat ≤ 1 := Bool.toNat_le _
  have hs0 : (c != 0).toNat = 0 ↔ c = 0 := by by_cases hh : c = 0 <;> simp [hh]
  generalize (c != 0).toNat = s at *
  subst hf
  have d1 : (4 * (2 * h * q + r) + c) / (8 * h) = q ∧ (4 * (2 * h * q + r) + c) % (8 * h) = 4 * r + c := by
    have : 4 * (2 * h * q + r) + c = 8 * h * q + (4 * r + c) := by grind
    rw [this]
    exact ⟨by rw [Nat.mul_add_div (by omega), Nat.div_eq_of_lt (by omega)]; rfl, by rw [Nat.mul_add_mod, Nat.mod_eq_of_lt (by omega)]⟩
  have d2 : (2 * (2 * h * q + r) + s) / (4 * h) = q ∧ (2 * (2 * h * q + r) + s) % (4 * h) = 2 * r + s := by
    have : 2 * (2 * h * q + r) + s = 4 * h * q + (2 * r + s) := by grind
    rw [this]
    exact ⟨by rw [Nat.mul_add_div (by omega), Nat.div_eq_of_lt (by omega)]; rfl, by rw [Nat.mul_add_mod, Nat.mod_eq_of_lt (by omega)]⟩
  rw [d1.1, d1.2, d2.1, d2.2]
  have b1 : decide (8 * h < 2 * (4 * r + c)) = decide (4 * h < 2 * (2 * r + s)) := decide_eq_decide.2 (by omega)
  have b2 : (8 * h == 2 * (4 * r + c)) = (4 * h == 2 * (2 * r + s)) := by
    rw [Bool.eq_iff_iff]; simp only [beq_iff_eq]; omega
  rw [b1, b2]
theorem log2_of {n k : Nat} (h1 : 2 ^ k ≤ n) (h2 : n < 2 ^ (k + 1)) : n.log2 = k := (Nat.log2_eq_iff (by have := Nat.two_pow_pos k; omega)).2 ⟨h1, h2⟩
/-- twice as much, one place lower -/
theorem nearest_stick (neg : Bool) (A B : Nat) (place : Int) (hB : B ≠ 0) (hbig : B * 2 ^ 53 ≤ A) (hp : -1022 ≤ place) :
    double.nearest neg (stick (2 * A) B) (place - 1) = double.nearest neg (stick A B) place := by
  obtain ⟨f, hf⟩ : ∃ f, A / B = f := ⟨_, rfl⟩
  have hBp : 0 < B := by omega
  have hfb : 2 ^ 53 ≤ f := by rw [← hf]; exact (Nat.le_div_iff_mul_le hBp).2 (by rw [Nat.mul_comm]; exact hbig)
  have hA := Nat.div_add_mod A B
  have hr := Nat.mod_lt A hBp
  rw [hf] at hA
  obtain ⟨r, hrr⟩ : ∃ r, A % B = r := ⟨_, rfl⟩
  rw [hrr] at hA hr
  -- 2A = B (2f + b) + r'
  obtain ⟨b, r', hb, hr', hbr⟩ : ∃ b r', b ≤ 1 ∧ r' < B ∧ 2 * r = B * b + r' := by
    by_cases h : 2 * r < B
    · exact ⟨0, 2 * r, by omega, h, by omega⟩
    · exact ⟨1, 2 * r - B, by omega, by omega, by omega⟩
  have hA2 : 2 * A = B * (2 * f + b) + r' := by rw [← hA]; grind
  have q1 : 2 * A / B = 2 * f + b := by rw [hA2, Nat.mul_add_div hBp, Nat.div_eq_of_lt hr']; rfl
  have q2 : 2 * A % B = r' := by rw [hA2, Nat.mul_add_mod, Nat.mod_eq_of_lt hr']
  obtain ⟨c, hc, hc3, hcs⟩ : ∃ c, stick (2 * A) B = 4 * f + c ∧ c ≤ 3 ∧ (c != 0) = (r != 0) := by
    refine ⟨2 * b + (r' != 0).toNat, ?_, ?_, ?_⟩
    · unfold stick; rw [q1, q2]; omega
    · have := Bool.toNat_le (r' != 0); omega
    · have e : (r' != 0).toNat = 0 ↔ r' = 0 := by by_cases hh : r' = 0 <;> simp [hh]
      generalize (r' != 0).toNat = s at *
      rw [Bool.eq_iff_iff, bne_iff_ne, bne_iff_ne]
      rcases (show b = 0 ∨ b = 1 by omega) with rfl | rfl
      · rw [Nat.mul_zero] at hbr
        omega
      · rw [Nat.mul_one] at hbr
        omega
  have hs : stick A B = 2 * f + (c != 0).toNat := by unfold stick; rw [hf, hrr, hcs]
  rw [hc, hs]
  have hsb := Bool.toNat_le (c != 0)
  have hlo := Nat.log2_self_le (show f ≠ 0 by omega)
  have hhi := Nat.lt_log2_self (n := f)
  have hk : 53 ≤ f.log2 := (Nat.le_log2 (by omega)).2 hfb
  have l1 : (4 * f + c).log2 = f.log2 + 2 := log2_of (by rw [Nat.pow_add]; omega) (by rw [show f.log2 + 2 + 1 = f.log2 + 1 + 2 by omega, Nat.pow_add]; omega)
  have l2 : (2 * f + (c != 0).toNat).log2 = f.log2 + 1 := log2_of (by rw [Nat.pow_add]; omega) (by rw [show f.log2 + 1 + 1 = f.log2 + 1 + 1 by omega, Nat.pow_add _ (f.log2 + 1)]; omega)
  rw [nearest_eq _ _ _ (by omega), nearest_eq _ _ _ (by omega)]
  have L : lastOf (4 * f + c) (place - 1) = lastOf (2 * f + (c != 0).toNat) place := by unfold lastOf; rw [l1, l2]; omega
  have Lv : lastOf (2 * f + (c != 0).toNat) place = place + f.log2 - 51 := by unfold lastOf; rw [l2]; omega
  have K : keptOf neg (4 * f + c) (place - 1) = keptOf neg (2 * f + (c != 0).toNat) place := by
    unfold keptOf
    rw [L, Lv]
    rw [show (place - 1 - (place + (f.log2 : Int) - 51)).toNat = 0 by omega, show (place - (place + (f.log2 : Int) - 51)).toNat = 0 by omega, Nat.shiftLeft_zero, Nat.shiftLeft_zero]
    rw [show (place + (f.log2 : Int) - 51 - (place - 1)).toNat = (f.log2 - 51) + 1 by omega, show (place + (f.log2 : Int) - 51 - place).toNat = f.log2 - 51 by omega]
    exact cut_stick neg f c (f.log2 - 51) hc3 (by omega) (by omega) (by omega)
  rw [L, K]

theorem int_read {x : Nat} {a : Int} (hx : IsV x a) (ha : a ≠ 0) : ∃ s m e, double.read x = .number s m e ∧ rat s m e = a ∧ 2 ^ 52 ≤ m ∧ m < 2 ^ 53 ∧ -53 ≤ e ∧ m.log2 = 52 ∧ s = decide (a < 0) ∧ (m : Rat) * (2 : Rat) ^ e = (a.natAbs : Int) := by
  obtain ⟨lx, s, m, e, h, hv⟩ := hx
  obtain ⟨_, a2, a3, a4, _⟩ := read_inv lx h
  have hm0 : m ≠ 0 := by
    intro c; subst c; rw [rat_zero] at hv
    exact ha (Rat.intCast_inj.1 hv.symm)
  have hp := rat_pos m e
  have hab : (m : Rat) * (2 : Rat) ^ e = ((a.natAbs : Int) : Rat) ∧ s = decide (a < 0) := by
    cases s
    · rw [rat_false] at hv
      have h0 : (0 : Rat) ≤ a := by rw [← hv]; exact hp
      have h0' : (0 : Int) ≤ a := Rat.intCast_le_intCast.1 h0
      rw [hv]; exact ⟨by congr 1; omega, by simp; omega⟩
    · rw [rat_true] at hv
      have h0 : (a : Rat) ≤ 0 := by grind
      have h0' : a ≤ (0 : Int) := Rat.intCast_le_intCast.1 h0
      have : ((a.natAbs : Int) : Rat) = -(a : Rat) := by rw [← Rat.intCast_neg]; congr 1; omega
      rw [this]
      exact ⟨by grind, by simp; omega⟩
  have h1 : (1 : Rat) ≤ ((a.natAbs : Int) : Rat) := Rat.intCast_le_intCast.2 (show (1 : Int) ≤ (a.natAbs : Int) by omega)
  have he : -53 ≤ e := by
    by_cases c : e < -53
    · exfalso
      have h2 : (2 : Rat) ^ e ≤ (2 : Rat) ^ (-54 : Int) := zpow_le (by omega)
      have h3 : (m : Rat) ≤ ((2 ^ 53 : Nat) : Rat) := Rat.natCast_le_natCast.2 (by omega)
      have h4 := Rat.mul_le_mul_of_nonneg_right h3 (Rat.le_of_lt (zpow_pos e))
      have h5 := Rat.mul_le_mul_of_nonneg_left h2 (show (0 : Rat) ≤ ((2 ^ 53 : Nat) : Rat) from Rat.natCast_nonneg)
      rw [hab.1] at h4
      have h6 : ((2 ^ 53 : Nat) : Rat) * (2 : Rat) ^ (-54 : Int) < 1 := by decide +kernel
      grind
    · omega
  have hm : 2 ^ 52 ≤ m := by omega
  exact ⟨s, m, e, h, hv, hm, a2, he, log2_of hm a2, hab.2, hab.1⟩

theorem quot_mag (m n more : Nat) : quotMag m n more = stick (m * 2 ^ more) n := rfl

theorem big_quot {n m : Nat} (h1 : n < 2 ^ 53) (h2 : 2 ^ 52 ≤ m) : n * 2 ^ 53 ≤ m * 2 ^ 54 := by omega
set_option maxRecDepth 20000 in
/-- QUOTIENTS OF WHOLE NUMBERS: equal ones have equal words. -/
theorem quo_same {x y x' y' : Nat} {a b c d : Int} (hx : IsV x a) (hy : IsV y b) (hx' : IsV x' c) (hy' : IsV y' d) (ha : a ≠ 0) (hb : b ≠ 0) (hd : d ≠ 0) (hb2 : b.natAbs < 2 ^ 53) (hd2 : d.natAbs < 2 ^ 53) (h : a * d = c * b) :
    double.div x y = double.div x' y' := by
  have hc : c ≠ 0 := by
    intro hc; subst hc
    rw [Int.zero_mul] at h
    rcases Int.mul_eq_zero.1 h with h | h
    · exact ha h
    · exact hd h
  obtain ⟨s1, m1, e1, r1, v1, l1, u1, p1, g1, t1, w1⟩ := int_read hx ha
  obtain ⟨s2, n1, f1, r2, v2, l2, u2, p2, g2, t2, w2⟩ := int_read hy hb
  obtain ⟨s3, m2, e2, r3, v3, l3, u3, p3, g3, t3, w3⟩ := int_read hx' hc
  obtain ⟨s4, n2, f2, r4, v4, l4, u4, p4, g4, t4, w4⟩ := int_read hy' hd
  have up : ∀ {n : Nat} {f : Int} {b : Int}, 2 ^ 52 ≤ n → b.natAbs < 2 ^ 53 → (n : Rat) * (2 : Rat) ^ f = ((b.natAbs : Int) : Rat) → f ≤ 0 := by
    intro n f b hn hb hw
    by_cases c : 0 < f
    · exfalso
      have h2 : (2 : Rat) ^ (1 : Int) ≤ (2 : Rat) ^ f := zpow_le (by omega)
      have h3 : ((2 ^ 52 : Nat) : Rat) ≤ (n : Rat) := Rat.natCast_le_natCast.2 hn
      have h4 := Rat.mul_le_mul_of_nonneg_right h3 (Rat.le_of_lt (zpow_pos f))
      have h5 := Rat.mul_le_mul_of_nonneg_left h2 (show (0 : Rat) ≤ ((2 ^ 52 : Nat) : Rat) from Rat.natCast_nonneg)
      have h6 : ((b.natAbs : Int) : Rat) < ((2 ^ 53 : Nat) : Rat) := by
        rw [← Rat.intCast_natCast]; exact Rat.intCast_lt_intCast.2 (by omega)
      have h7 : ((2 ^ 52 : Nat) : Rat) * (2 : Rat) ^ (1 : Int) = ((2 ^ 53 : Nat) : Rat) := by decide +kernel
      grind
    · omega
  have p2' := up l2 hb2 w2
  have p4' := up l4 hd2 w4
  rw [div_datum r1 r2 (by omega), div_datum r3 r4 (by omega), g1, g2, g3, g4, show 54 + 52 - 52 = 54 from rfl]
  -- the signs
  have hsg : (s1 ^^ s2) = (s3 ^^ s4) := by
    rw [t1, t2, t3, t4]
    by_cases za : a < 0 <;> by_cases zb : b < 0 <;> by_cases zc : c < 0 <;> by_cases zd : d < 0 <;> simp [za, zb, zc, zd]
    all_goals
      exfalso
      rcases (show (a * d < 0 ∧ 0 < c * b) ∨ (0 < a * d ∧ c * b < 0) by
        first
        | exact .inl ⟨Int.mul_neg_of_neg_of_pos (by omega) (by omega), Int.mul_pos (by omega) (by omega)⟩
        | exact .inl ⟨Int.mul_neg_of_pos_of_neg (by omega) (by omega), Int.mul_pos (by omega) (by omega)⟩
        | exact .inl ⟨Int.mul_neg_of_neg_of_pos (by omega) (by omega), Int.mul_pos_of_neg_of_neg (by omega) (by omega)⟩
        | exact .inl ⟨Int.mul_neg_of_pos_of_neg (by omega) (by omega), Int.mul_pos_of_neg_of_neg (by omega) (by omega)⟩
        | exact .inr ⟨Int.mul_pos (by omega) (by omega), Int.mul_neg_of_neg_of_pos (by omega) (by omega)⟩
        | exact .inr ⟨Int.mul_pos (by omega) (by omega), Int.mul_neg_of_pos_of_neg (by omega) (by omega)⟩
        | exact .inr ⟨Int.mul_pos_of_neg_of_neg (by omega) (by omega), Int.mul_neg_of_neg_of_pos (by omega) (by omega)⟩
        | exact .inr ⟨Int.mul_pos_of_neg_of_neg (by omega) (by omega), Int.mul_neg_of_pos_of_neg (by omega) (by omega)⟩) with ⟨h1, h2⟩ | ⟨h1, h2⟩ <;> omega
  rw [hsg]
  -- the magnitudes
  have hmag : ((m1 * n2 : Nat) : Rat) * (2 : Rat) ^ (e1 + f2) = ((m2 * n1 : Nat) : Rat) * (2 : Rat) ^ (e2 + f1) := by
    have hI : ((a.natAbs : Int) : Rat) * ((d.natAbs : Int) : Rat) = ((c.natAbs : Int) : Rat) * ((b.natAbs : Int) : Rat) := by
      rw [← Rat.intCast_mul, ← Rat.intCast_mul]
      congr 1
      have := congrArg Int.natAbs h
      rw [Int.natAbs_mul, Int.natAbs_mul] at this
      exact_mod_cast this
    rw [zpow_add, zpow_add, Rat.natCast_mul, Rat.natCast_mul]
    rw [← w1, ← w2, ← w3, ← w4] at hI
    grind
  have big1 := big_quot u2 l1
  have big2 := big_quot u4 l3
  have b1 : (2 ^ 52) * (2 ^ 52) ≤ m1 * n2 := Nat.mul_le_mul l1 l4
  have b2 : (2 ^ 52) * (2 ^ 52) ≤ m2 * n1 := Nat.mul_le_mul l3 l2
  have b3 : m1 * n2 < (2 ^ 53) * (2 ^ 53) := Nat.mul_lt_mul'' u1 u4
  have b4 : m2 * n1 < (2 ^ 53) * (2 ^ 53) := Nat.mul_lt_mul'' u3 u2
  have far : ∀ {M N : Nat} {k : Nat}, (2 ^ 52) * (2 ^ 52) ≤ N → M < (2 ^ 53) * (2 ^ 53) → M = N * 2 ^ k → k = 0 ∨ k = 1 := by
    intro M N k hN hM hk
    rcases Nat.lt_or_ge k 2 with c | c
    · omega
    · exfalso
      have : 2 ^ 2 ≤ 2 ^ k := Nat.pow_le_pow_right (by omega) c
      have := Nat.mul_le_mul hN this
      omega
  rcases Int.le_total (e1 + f2) (e2 + f1) with cc | cc
  · have hs := rat_same hmag cc
    rcases far b2 b3 hs with hk | hk
    · rw [hk, Nat.pow_zero, Nat.mul_one] at hs
      rw [show e2 - f2 = e1 - f1 by omega]
      have hq : quotMag m1 n1 54 = quotMag m2 n2 54 := by
        rw [quot_mag, quot_mag]
        refine stick_eq (by omega) (by omega) ?_
        rw [Nat.mul_right_comm, hs, Nat.mul_right_comm]
      rw [hq]
    · rw [hk] at hs
      have e : e1 - f1 = e2 - f2 - 1 := by omega
      have hstk : quotMag m1 n1 54 = stick (2 * (m2 * 2 ^ 54)) n2 := by
        rw [quot_mag]
        refine stick_eq (by omega) (by omega) ?_
        show m1 * 2 ^ 54 * n2 = 2 * (m2 * 2 ^ 54) * n1
        rw [Nat.mul_right_comm, hs]; grind
      have hp := nearest_stick (s3 ^^ s4) (m2 * 2 ^ 54) n2 (e2 - f2 - (54 : Nat) - 1) (by omega) big2 (by omega)
      rw [hstk, e, quot_mag]
      rw [show e2 - f2 - 1 - ((54 : Nat) : Int) - 1 = e2 - f2 - ((54 : Nat) : Int) - 1 - 1 by omega]
      exact congrArg some hp
  · have hs := rat_same hmag.symm cc
    rcases far b1 b4 hs with hk | hk
    · rw [hk, Nat.pow_zero, Nat.mul_one] at hs
      rw [show e2 - f2 = e1 - f1 by omega]
      have hq : quotMag m1 n1 54 = quotMag m2 n2 54 := by
        rw [quot_mag, quot_mag]
        refine stick_eq (by omega) (by omega) ?_
        rw [Nat.mul_right_comm, ← hs, Nat.mul_right_comm]
      rw [hq]
    · rw [hk] at hs
      have e : e2 - f2 = e1 - f1 - 1 := by omega
      have hstk : quotMag m2 n2 54 = stick (2 * (m1 * 2 ^ 54)) n1 := by
        rw [quot_mag]
        refine stick_eq (by omega) (by omega) ?_
        show m2 * 2 ^ 54 * n1 = 2 * (m1 * 2 ^ 54) * n2
        rw [Nat.mul_right_comm, hs]; grind
      have hp := nearest_stick (s3 ^^ s4) (m1 * 2 ^ 54) n1 (e1 - f1 - (54 : Nat) - 1) (by omega) big1 (by omega)
      rw [hstk, e, quot_mag]
      rw [show e1 - f1 - 1 - ((54 : Nat) : Int) - 1 = e1 - f1 - ((54 : Nat) : Int) - 1 - 1 by omega]
      exact congrArg some hp.symm
end PubFl
