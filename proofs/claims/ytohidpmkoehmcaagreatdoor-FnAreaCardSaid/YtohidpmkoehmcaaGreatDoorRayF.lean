/-
  Quotients of whole numbers side by side, and the number next to a whole one: plain facts.
-/
import Derived.Test.YtohidpmkoehmcaaGreatDoorQuo
import Derived.Test.YtohidpmkoehmcaaGreatDoorSegF
set_option linter.all false
namespace Go.Proofs.YtohidpmkoehmcaaGreatDoor
open PubFl Ieee

/-- the word behind another one -/
def nextF (x : Nat) : Nat := if x = 0 then 1 else if negF x then x - 1 else x + 1
def nextOk (i : Nat) : Bool :=
  match double.read (nextF (fl ((i : Int) - 1000))) with
  | .number s m e => decide (nextF (fl ((i : Int) - 1000)) < 2 ^ 64) && decide (-60 ≤ e) &&
      (if s then decide ((((1000 - i : Nat) : Int) * 2 ^ 60 - (m * 2 ^ (e + 60).toNat : Nat)).toNat = 2 ^ (((1000 - i : Nat) : Int) * 2 ^ 60 - (m * 2 ^ (e + 60).toNat : Nat)).toNat.log2) && decide ((((1000 - i : Nat) : Int) * 2 ^ 60 - (m * 2 ^ (e + 60).toNat : Nat)).toNat.log2 ≤ 30) && decide (i ≤ 1000)
        else decide (((m * 2 ^ (e + 60).toNat : Nat) - ((i - 1000 : Nat) : Int) * 2 ^ 60).toNat = 2 ^ ((m * 2 ^ (e + 60).toNat : Nat) - ((i - 1000 : Nat) : Int) * 2 ^ 60).toNat.log2) && decide (((m * 2 ^ (e + 60).toNat : Nat) - ((i - 1000 : Nat) : Int) * 2 ^ 60).toNat.log2 ≤ 30) && decide (1000 ≤ i))
  | _ => false
theorem next_all : (List.range 2001).all (fun i => i == 1000 || nextOk i) = true := by decide +kernel
theorem step60 (m : Nat) (e : Int) (he : -60 ≤ e) : (m : Rat) * (2 : Rat) ^ e = ((m * 2 ^ (e + 60).toNat : Nat) : Rat) * (2 : Rat) ^ (-60 : Int) := by
  rw [Rat.natCast_mul, ← zpow_nat, Rat.mul_assoc, ← zpow_add]
  congr 2; omega
theorem next_isV {n : Int} (h1 : -1000 ≤ n) (h2 : n ≤ 1000) (h0 : n ≠ 0) : ∃ j : Nat, j ≤ 30 ∧ IsV (nextF (fl n)) ((n : Rat) + (2 : Rat) ^ ((j : Int) - 60)) := by
  have ha := List.all_eq_true.1 next_all (n + 1000).toNat (List.mem_range.2 (by omega))
  rw [show ((n + 1000).toNat == 1000) = false from beq_eq_false_iff_ne.2 (by omega), Bool.false_or] at ha
  unfold nextOk at ha
  rw [show (((n + 1000).toNat : Int) - 1000) = n by omega] at ha
  have sixty : (2 : Rat) ^ (60 : Int) * (2 : Rat) ^ (-60 : Int) = 1 := by rw [← zpow_add]; rfl
  split at ha
  · rename_i s m e hr
    simp only [Bool.and_eq_true, decide_eq_true_eq] at ha
    obtain ⟨⟨hlt, he⟩, ha⟩ := ha
    have hst := step60 m e he
    cases s
    · simp only [Bool.false_eq_true, if_false, Bool.and_eq_true, decide_eq_true_eq] at ha
      obtain ⟨⟨hp, hj⟩, hi⟩ := ha
      generalize hV : m * 2 ^ (e + 60).toNat = V at *
      obtain ⟨j, hjj⟩ : ∃ j, ((V : Int) - (((n + 1000).toNat - 1000 : Nat) : Int) * 2 ^ 60).toNat.log2 = j := ⟨_, rfl⟩
      rw [hjj] at hp hj
      refine ⟨j, hj, hlt, false, m, e, hr, ?_⟩
      rw [rat_false, hst]
      have hp2 : 0 < 2 ^ j := Nat.two_pow_pos j
      have hVi : (V : Int) = n * 2 ^ 60 + (2 ^ j : Nat) := by omega
      have hVr : (V : Rat) = (n : Rat) * (2 : Rat) ^ (60 : Int) + ((2 ^ j : Nat) : Rat) := by
        have := congrArg (fun z : Int => (z : Rat)) hVi
        simp only [Rat.intCast_add, Rat.intCast_mul, Rat.intCast_natCast] at this
        rw [this]
        congr 1
      rw [hVr, show ((j : Int) - 60) = (j : Int) + (-60) by omega, zpow_add, zpow_nat]
      generalize ((2 ^ j : Nat) : Rat) = J
      generalize (2 : Rat) ^ (60 : Int) = S at *
      generalize (2 : Rat) ^ (-60 : Int) = T at *
      grind
    · simp only [if_true, Bool.and_eq_true, decide_eq_true_eq] at ha
      obtain ⟨⟨hp, hj⟩, hi⟩ := ha
      generalize hV : m * 2 ^ (e + 60).toNat = V at *
      obtain ⟨j, hjj⟩ : ∃ j, ((((1000 - (n + 1000).toNat : Nat)) : Int) * 2 ^ 60 - (V : Int)).toNat.log2 = j := ⟨_, rfl⟩
      rw [hjj] at hp hj
      refine ⟨j, hj, hlt, true, m, e, hr, ?_⟩
      rw [rat_true, hst]
      have hp2 : 0 < 2 ^ j := Nat.two_pow_pos j
      have hVi : -(V : Int) = n * 2 ^ 60 + (2 ^ j : Nat) := by omega
      have hVr : -(V : Rat) = (n : Rat) * (2 : Rat) ^ (60 : Int) + ((2 ^ j : Nat) : Rat) := by
        have := congrArg (fun z : Int => (z : Rat)) hVi
        simp only [Rat.intCast_add, Rat.intCast_mul, Rat.intCast_natCast, Rat.intCast_neg] at this
        rw [this]
        congr 1
      rw [show ((j : Int) - 60) = (j : Int) + (-60) by omega, zpow_add, zpow_nat]
      generalize ((2 ^ j : Nat) : Rat) = J at *
      generalize (2 : Rat) ^ (60 : Int) = S at *
      generalize (2 : Rat) ^ (-60 : Int) = T at *
      grind
  · cases ha
theorem next_zero : nextF (fl 0) = 1 := by decide +kernel
theorem one_tiny : IsV 1 ((2 : Rat) ^ (-1074 : Int)) := by
  refine isV_const (by decide) (s := false) (m := 1) (e := -1074) (by decide +kernel) ?_
  rw [rat_false]; grind
theorem small30 {j : Nat} (h : j ≤ 30) : (0 : Rat) < (2 : Rat) ^ ((j : Int) - 60) ∧ (2 : Rat) ^ ((j : Int) - 60) ≤ 1 / 1000000000 := by
  refine ⟨zpow_pos _, Rat.le_trans (zpow_le (show (j : Int) - 60 ≤ -30 by omega)) ?_⟩
  decide +kernel
/-- the number next to a whole one: a bit more -/
theorem next_more {n : Int} (h1 : -1000 ≤ n) (h2 : n ≤ 1000) : ∃ δ : Rat, 0 < δ ∧ δ ≤ 1 / 1000000000 ∧ IsV (nextF (fl n)) ((n : Rat) + δ) := by
  by_cases h0 : n = 0
  · subst h0
    refine ⟨(2 : Rat) ^ (-1074 : Int), zpow_pos _, Rat.le_trans (zpow_le (show (-1074 : Int) ≤ -30 by omega)) (by decide +kernel), ?_⟩
    rw [next_zero]
    have e : ((0 : Int) : Rat) + (2 : Rat) ^ (-1074 : Int) = (2 : Rat) ^ (-1074 : Int) := by
      have : ((0 : Int) : Rat) = 0 := rfl
      rw [this, Rat.zero_add]
    rw [e]; exact one_tiny
  · obtain ⟨j, hj, hv⟩ := next_isV h1 h2 h0
    obtain ⟨a, b⟩ := small30 hj
    exact ⟨_, a, b, hv⟩

def infW : Nat := 9218868437227405312
def ninfW : Nat := 18442240474082181120
def overOk (i : Nat) : Bool := if i = 2000 then true else if i < 2000 then decide (double.div (fl ((i : Int) - 2000)) 1 = some ninfW) else decide (double.div (fl ((i : Int) - 2000)) 1 = some infW)
theorem over_all : (List.range 4001).all overOk = true := by decide +kernel
theorem inf_cmp {d : Nat} {q : Rat} (hd : IsV d q) : eqF infW d = false ∧ leF infW d = false ∧ eqF ninfW d = false ∧ leF ninfW d = true := by
  obtain ⟨_, s, m, e, h, _⟩ := hd
  have r1 : double.read infW = .infinity false := by decide +kernel
  have r2 : double.read ninfW = .infinity true := by decide +kernel
  have o1 : FloatKind.f64.format.order infW d = some .gt := by
    show (double.read infW).order (double.read d) = _
    rw [r1, h]; rfl
  have o2 : FloatKind.f64.format.order ninfW d = some .lt := by
    show (double.read ninfW).order (double.read d) = _
    rw [r2, h]; rfl
  unfold leF ltF eqF
  rw [o1, o2]
  exact ⟨rfl, rfl, rfl, rfl⟩

/-- a quotient by almost nothing, beside another number -/
theorem quo_tiny {x n : Nat} {k N : Int} (hx : IsV x (k : Rat)) (hk0 : k ≠ 0) (hk1 : -2000 ≤ k) (hk2 : k ≤ 2000) (hn : n = fl N) (h1 : -1000 ≤ N) (h2 : N ≤ 1000) :
    FOk .sub (nextF n) n ∧ FOk .quo x (fop .sub (nextF n) n) ∧ ∀ {d : Nat} {q : Rat}, IsV d q → Mag q 2001 → eqF (fop .quo x (fop .sub (nextF n) n)) d = false ∧ leF (fop .quo x (fop .sub (nextF n) n)) d = decide (k < 0) := by
  subst hn
  have hfl := fl_isV (n := N) (by omega)
  by_cases h0 : N = 0
  · subst h0
    rw [next_zero]
    have e : (2 : Rat) ^ (-1074 : Int) - ((0 : Int) : Rat) = (2 : Rat) ^ (-1074 : Int) := by
      have : ((0 : Int) : Rat) = 0 := rfl
      rw [this]; grind
    obtain ⟨o1, v1⟩ := sub_few one_tiny hfl ⟨false, 1, -1074, by decide, by decide, by decide, by rw [e, rat_false]; grind⟩
    rw [e] at v1
    have hw : fop .sub 1 (fl 0) = 1 := isV_bits v1 one_tiny (by have := zpow_pos (-1074); grind)
    rw [hw]
    have hxw : x = fl k := isV_bits hx (fl_isV (by omega)) (fun c => hk0 (Rat.intCast_inj.1 c))
    subst hxw
    have ho := List.all_eq_true.1 over_all (k + 2000).toNat (List.mem_range.2 (by omega))
    unfold overOk at ho
    rw [show (((k + 2000).toNat : Int) - 2000) = k by omega, if_neg (by omega)] at ho
    have hdiv : ∀ {w : Nat}, double.div (fl k) 1 = some w → FOk .quo (fl k) 1 ∧ fop .quo (fl k) 1 = w := fun h => fop_of h
    by_cases hneg : (k + 2000).toNat < 2000
    · rw [if_pos hneg, decide_eq_true_eq] at ho
      obtain ⟨o, ew⟩ := hdiv ho
      refine ⟨o1, o, fun hd _ => ?_⟩
      rw [ew, decide_eq_true (show k < 0 by omega)]
      exact ⟨(inf_cmp hd).2.2.1, (inf_cmp hd).2.2.2⟩
    · rw [if_neg hneg, decide_eq_true_eq] at ho
      obtain ⟨o, ew⟩ := hdiv ho
      refine ⟨o1, o, fun hd _ => ?_⟩
      rw [ew, decide_eq_false (show ¬ k < 0 by omega)]
      exact ⟨(inf_cmp hd).1, (inf_cmp hd).2.1⟩
  · obtain ⟨j, hj, hv⟩ := next_isV h1 h2 h0
    have e : (N : Rat) + (2 : Rat) ^ ((j : Int) - 60) - (N : Rat) = (2 : Rat) ^ ((j : Int) - 60) := by grind
    obtain ⟨o1, v1⟩ := sub_few hv hfl ⟨false, 1, (j : Int) - 60, by decide, by omega, by omega, by rw [e, rat_false]; grind⟩
    rw [e] at v1
    have hinv : (2 : Rat) ^ (60 - (j : Int)) * (2 : Rat) ^ ((j : Int) - 60) = 1 := by
      rw [← zpow_add, show 60 - (j : Int) + ((j : Int) - 60) = 0 by omega]; rfl
    have hbig : (1000000000 : Rat) ≤ (2 : Rat) ^ (60 - (j : Int)) := Rat.le_trans (show (1000000000 : Rat) ≤ (2 : Rat) ^ (30 : Int) by decide +kernel) (zpow_le (by omega))
    obtain ⟨o2, v2⟩ := quo_few (v := (k : Rat) * (2 : Rat) ^ (60 - (j : Int))) hx v1 (by have := (small30 hj).1; grind) (by rw [Rat.mul_assoc, hinv, Rat.mul_one])
      ⟨decide (k < 0), k.natAbs, 60 - (j : Int), by omega, by omega, by omega, by
        by_cases hneg : k < 0
        · rw [decide_eq_true hneg, rat_true]
          have : (k : Rat) = -((k.natAbs : Nat) : Rat) := by
            rw [← Rat.intCast_natCast, ← Rat.intCast_neg]; congr 1; omega
          rw [this]; grind
        · rw [decide_eq_false hneg, rat_false]
          have : (k : Rat) = ((k.natAbs : Nat) : Rat) := by
            rw [← Rat.intCast_natCast]; congr 1; omega
          rw [this]⟩
    refine ⟨o1, o2, fun {d q} hd hq => ?_⟩
    rw [eqF_isV v2 hd, leF_isV v2 hd]
    obtain ⟨q1, q2⟩ := hq
    generalize (2 : Rat) ^ (60 - (j : Int)) = T at *
    by_cases hneg : k < 0
    · have hk : (k : Rat) ≤ -1 := by
        have := int_le (show k ≤ -1 by omega)
        have e1 : ((-1 : Int) : Rat) = -1 := rfl
        rw [e1] at this; exact this
      have m1 := Rat.mul_nonneg (show 0 ≤ -1 - (k : Rat) by grind) (show 0 ≤ T by grind)
      rw [decide_eq_true hneg]
      exact ⟨decide_eq_false (by grind), decide_eq_true (by grind)⟩
    · have hk : (1 : Rat) ≤ (k : Rat) := by
        have := int_le (show 1 ≤ k by omega)
        have e1 : ((1 : Int) : Rat) = 1 := rfl
        rw [e1] at this; exact this
      have m1 := Rat.mul_nonneg (show 0 ≤ (k : Rat) - 1 by grind) (show 0 ≤ T by grind)
      rw [decide_eq_false hneg]
      exact ⟨decide_eq_false (by grind), decide_eq_false (by grind)⟩

theorem rat_case2 (a b : Rat) : a < b ∨ b ≤ a := by grind
theorem quo_mag {a b : Int} (hb : 1 ≤ b) (ha : -2000 ≤ a ∧ a ≤ 2000) : ∃ h : Rat, (b : Rat) * h = 1 ∧ 0 < h ∧ h ≤ 1 ∧ (a : Rat) / b = a * h ∧ Mag ((a : Rat) / b) 2000 ∧ (b : Rat) ≠ 0 := by
  have hb1 : (1 : Rat) ≤ (b : Rat) := by
    have := int_le hb
    have e1 : ((1 : Int) : Rat) = 1 := rfl
    rw [e1] at this; exact this
  have hbn : (b : Rat) ≠ 0 := by grind
  obtain ⟨h, hh⟩ : ∃ h : Rat, h = 1 / b := ⟨_, rfl⟩
  have hbh : (b : Rat) * h = 1 := by rw [hh]; grind
  have hp : 0 < h := by
    rcases rat_case2 0 h with c | c
    · exact c
    · have := Rat.mul_nonneg (show 0 ≤ -h by grind) (show (0 : Rat) ≤ b by grind)
      grind
  have h1 : h ≤ 1 := by
    have := Rat.mul_nonneg (show 0 ≤ (b : Rat) - 1 by grind) (Rat.le_of_lt hp)
    grind
  have hq : (a : Rat) / b = a * h := by rw [hh]; grind
  refine ⟨h, hbh, hp, h1, hq, ?_, hbn⟩
  rw [hq]
  have a1 := int_le ha.1
  have a2 := int_le ha.2
  have e1 : ((-2000 : Int) : Rat) = -2000 := rfl
  have e2 : ((2000 : Int) : Rat) = 2000 := rfl
  rw [e1] at a1
  rw [e2] at a2
  have m1 := Rat.mul_nonneg (show 0 ≤ (a : Rat) + 2000 by grind) (Rat.le_of_lt hp)
  have m2 := Rat.mul_nonneg (show 0 ≤ 2000 - (a : Rat) by grind) (Rat.le_of_lt hp)
  constructor <;> grind
theorem quo_fin {x y : Nat} {a b : Int} (hx : IsV x a) (hy : IsV y b) (hb : 1 ≤ b) (ha : -2000 ≤ a ∧ a ≤ 2000) : FOk .quo x y ∧ ∃ r, IsV (fop .quo x y) r ∧ Mag r 2001 ∧ Within r ((a : Rat) / b) (1 / 100000000000) := by
  obtain ⟨h, _, _, _, _, hm, hbn⟩ := quo_mag hb ha
  obtain ⟨r, o, v, w⟩ := quo_near hx hy hbn hm (huge_ge (by grind))
  have e := eps_lit
  have t := tiny_lit
  refine ⟨o, r, v, ?_, ?_⟩
  · obtain ⟨w1, w2⟩ := w
    obtain ⟨m1, m2⟩ := hm
    rw [e] at w1 w2
    constructor <;> grind
  · refine w.mono ?_
    rw [e]; grind
/-- QUOTIENTS OF WHOLE NUMBERS, side by side -/
theorem quo_cmp {x y x' y' : Nat} {a b c d : Int} (hx : IsV x a) (hy : IsV y b) (hx' : IsV x' c) (hy' : IsV y' d) (hb : 1 ≤ b ∧ b ≤ 2000) (hd : 1 ≤ d ∧ d ≤ 2000) (ha : -2000 ≤ a ∧ a ≤ 2000) (hc : -2000 ≤ c ∧ c ≤ 2000) :
    eqF (fop .quo x y) (fop .quo x' y') = decide (a * d = c * b) ∧ leF (fop .quo x y) (fop .quo x' y') = decide (a * d ≤ c * b) := by
  obtain ⟨o1, r1, v1, _, w1⟩ := quo_fin hx hy hb.1 ha
  obtain ⟨o2, r2, v2, _, w2⟩ := quo_fin hx' hy' hd.1 hc
  obtain ⟨h1, k1, p1, l1, q1, _, _⟩ := quo_mag hb.1 ha
  obtain ⟨h2, k2, p2, l2, q2, _, _⟩ := quo_mag hd.1 hc
  have low : ∀ {b : Int} {h : Rat}, b ≤ 2000 → (b : Rat) * h = 1 → 0 < h → 1 / 2000 ≤ h := by
    intro b h hb hk hp
    have e2 : ((2000 : Int) : Rat) = 2000 := rfl
    have b2 := int_le hb
    rw [e2] at b2
    have := Rat.mul_nonneg (show 0 ≤ 2000 - (b : Rat) by grind) (Rat.le_of_lt hp)
    grind
  have g1 := low hb.2 k1 p1
  have g2 := low hd.2 k2 p2
  have gg := Rat.mul_nonneg (show 0 ≤ h1 - 1 / 2000 by grind) (show 0 ≤ h2 - 1 / 2000 by grind)
  have gp : (1 : Rat) / 4000000 ≤ h1 * h2 := by grind
  rw [q1] at w1
  rw [q2] at w2
  -- the difference
  have hdiff : (a : Rat) * h1 - c * h2 = ((a * d - c * b : Int) : Rat) * (h1 * h2) := by
    rw [Rat.intCast_sub, Rat.intCast_mul, Rat.intCast_mul]
    have t1 : (a : Rat) * h1 = a * h1 * (d * h2) := by rw [k2, Rat.mul_one]
    have t2 : (c : Rat) * h2 = c * h2 * (b * h1) := by rw [k1, Rat.mul_one]
    rw [t1, t2]; grind
  have hgen : ∀ {n : Int}, 1 ≤ n → (1 : Rat) / 4000000 ≤ (n : Rat) * (h1 * h2) := by
    intro n hn
    have e1 : ((1 : Int) : Rat) = 1 := rfl
    have n1 := int_le hn
    rw [e1] at n1
    have := Rat.mul_nonneg (show 0 ≤ (n : Rat) - 1 by grind) (show 0 ≤ h1 * h2 by grind)
    grind
  obtain ⟨w1a, w1b⟩ := w1
  obtain ⟨w2a, w2b⟩ := w2
  rcases Int.lt_trichotomy (a * d) (c * b) with hlt | heq | hgt
  · have h := hgen (show 1 ≤ c * b - a * d by omega)
    have e : ((c * b - a * d : Int) : Rat) = -((a * d - c * b : Int) : Rat) := by rw [← Rat.intCast_neg]; congr 1; omega
    rw [e] at h
    generalize ((a * d - c * b : Int) : Rat) = D at *
    have hlt2 : r1 < r2 := by grind
    rw [eqF_isV v1 v2, leF_isV v1 v2, decide_eq_false (show ¬ a * d = c * b by omega), decide_eq_true (show a * d ≤ c * b by omega)]
    exact ⟨decide_eq_false (by grind), decide_eq_true (by grind)⟩
  · rw [decide_eq_true heq, decide_eq_true (show a * d ≤ c * b by omega)]
    by_cases a0 : a = 0
    · subst a0
      rw [Int.zero_mul] at heq
      have c0 : c = 0 := by
        rcases Int.mul_eq_zero.1 heq.symm with h | h
        · exact h
        · omega
      subst c0
      obtain ⟨_, z1⟩ := quo_few (v := 0) hx hy (by intro hh; rw [hh] at k1; grind) (by rw [Rat.zero_mul]; rfl) (few_int (n := 0) (by decide))
      obtain ⟨_, z2⟩ := quo_few (v := 0) hx' hy' (by intro hh; rw [hh] at k2; grind) (by rw [Rat.zero_mul]; rfl) (few_int (n := 0) (by decide))
      rw [eqF_isV z1 z2, leF_isV z1 z2]
      exact ⟨decide_eq_true rfl, decide_eq_true (by grind)⟩
    · have hs := quo_same hx hy hx' hy' a0 (by omega) (by omega) (by omega) (by omega) heq
      have hw : fop .quo x y = fop .quo x' y' := by
        show (double.div x y).getD 0 = (double.div x' y').getD 0
        rw [hs]
      rw [← hw, eqF_isV v1 v1, leF_isV v1 v1]
      exact ⟨decide_eq_true rfl, decide_eq_true (by grind)⟩
  · have h := hgen (show 1 ≤ a * d - c * b by omega)
    have hlt2 : r2 < r1 := by
      generalize ((a * d - c * b : Int) : Rat) = D at *
      grind
    rw [eqF_isV v1 v2, leF_isV v1 v2, decide_eq_false (show ¬ a * d = c * b by omega), decide_eq_false (show ¬ a * d ≤ c * b by omega)]
    exact ⟨decide_eq_false (by grind), decide_eq_false (by grind)⟩
end Go.Proofs.YtohidpmkoehmcaaGreatDoor
