/-
  The distance from a segment, as the program tells it and as spec.Near asks for it: plain facts.
-/
import Derived.Test.YtglopopdmkgooaaNearF
namespace Go.Proofs.Ytglopopdmkgooaa
open PubFl

theorem even_of_sq {x y n : Int} (h : x * x + y * y = 4 * n) : ∃ i j, x = 2 * i ∧ y = 2 * j := by
  refine ⟨x / 2, y / 2, ?_, ?_⟩ <;>
  · rcases Int.emod_two_eq x with hx | hx <;> rcases Int.emod_two_eq y with hy | hy
    · omega
    · exfalso
      obtain ⟨i, hi⟩ : ∃ i, x = 2 * i := ⟨x / 2, by omega⟩
      obtain ⟨j, hj⟩ : ∃ j, y = 2 * j + 1 := ⟨y / 2, by omega⟩
      subst hi hj
      have e1 : 2 * i * (2 * i) = 4 * (i * i) := by grind
      have e2 : (2 * j + 1) * (2 * j + 1) = 4 * (j * j + j) + 1 := by grind
      omega
    · exfalso
      obtain ⟨i, hi⟩ : ∃ i, x = 2 * i + 1 := ⟨x / 2, by omega⟩
      obtain ⟨j, hj⟩ : ∃ j, y = 2 * j := ⟨y / 2, by omega⟩
      subst hi hj
      have e1 : 2 * j * (2 * j) = 4 * (j * j) := by grind
      have e2 : (2 * i + 1) * (2 * i + 1) = 4 * (i * i + i) + 1 := by grind
      omega
    · exfalso
      obtain ⟨i, hi⟩ : ∃ i, x = 2 * i + 1 := ⟨x / 2, by omega⟩
      obtain ⟨j, hj⟩ : ∃ j, y = 2 * j + 1 := ⟨y / 2, by omega⟩
      subst hi hj
      have e1 : (2 * i + 1) * (2 * i + 1) = 4 * (i * i + i) + 1 := by grind
      have e2 : (2 * j + 1) * (2 * j + 1) = 4 * (j * j + j) + 1 := by grind
      omega

theorem gap_int {x y u v : Int} (hD : 0 < x * x + y * y) (hD2 : x * x + y * y ≤ 8000000) (h : 9999999 * (x * x + y * y) ≤ 10000000000000 * ((x * v - y * u) * (x * v - y * u))) :
    100000024 * (x * x + y * y) ≤ 100000000000000 * ((x * v - y * u) * (x * v - y * u)) := by
  obtain ⟨C, hC⟩ : ∃ C, C = x * v - y * u := ⟨_, rfl⟩
  obtain ⟨D, hDD⟩ : ∃ D, D = x * x + y * y := ⟨_, rfl⟩
  rw [← hC, ← hDD] at h
  rw [← hC, ← hDD]
  have hsq : ∀ k : Int, 0 ≤ k → (k ≤ C ∨ C ≤ -k) → k * k ≤ C * C := fun k hk hc => by
    have h1 : k.natAbs * k.natAbs ≤ C.natAbs * C.natAbs := Nat.mul_le_mul (by omega) (by omega)
    have h2 : ((k.natAbs * k.natAbs : Nat) : Int) = k * k := Int.natAbs_mul_self' k
    have h3 : ((C.natAbs * C.natAbs : Nat) : Int) = C * C := Int.natAbs_mul_self' C
    omega
  rcases (show C = 0 ∨ C = 1 ∨ C = -1 ∨ C = 2 ∨ C = -2 ∨ (3 ≤ C ∨ C ≤ -3) by omega) with c | c | c | c | c | c
  · rw [c] at h; omega
  · rw [c] at h ⊢
    by_cases hd : D = 1000000
    · exfalso
      obtain ⟨i, j, rfl, rfl⟩ := even_of_sq (n := 250000) (x := x) (y := y) (by omega)
      rw [c, Int.mul_assoc, Int.mul_assoc] at hC; omega
    · omega
  · rw [c] at h ⊢
    by_cases hd : D = 1000000
    · exfalso
      obtain ⟨i, j, rfl, rfl⟩ := even_of_sq (n := 250000) (x := x) (y := y) (by omega)
      rw [c, Int.mul_assoc, Int.mul_assoc] at hC; omega
    · omega
  · rw [c] at h ⊢
    by_cases hd : D = 4000000
    · exfalso
      obtain ⟨i, j, rfl, rfl⟩ := even_of_sq (n := 1000000) (x := x) (y := y) (by omega)
      have e : 2 * i * (2 * i) + 2 * j * (2 * j) = 4 * (i * i + j * j) := by grind
      obtain ⟨k, l, rfl, rfl⟩ := even_of_sq (n := 250000) (x := i) (y := j) (by omega)
      have e1 : 2 * (2 * k) * v - 2 * (2 * l) * u = 4 * (k * v - l * u) := by grind
      rw [c, e1] at hC; omega
    · omega
  · rw [c] at h ⊢
    by_cases hd : D = 4000000
    · exfalso
      obtain ⟨i, j, rfl, rfl⟩ := even_of_sq (n := 1000000) (x := x) (y := y) (by omega)
      have e : 2 * i * (2 * i) + 2 * j * (2 * j) = 4 * (i * i + j * j) := by grind
      obtain ⟨k, l, rfl, rfl⟩ := even_of_sq (n := 250000) (x := i) (y := j) (by omega)
      have e1 : 2 * (2 * k) * v - 2 * (2 * l) * u = 4 * (k * v - l * u) := by grind
      rw [c, e1] at hC; omega
    · omega
  · have := hsq 3 (by omega) c
    omega

/-- the square of the distance from the segment (a, b)-(c, d) -/
def Dist2 (a b c d e f : Int) (X : Rat) : Prop :=
  if (e - a) * (c - a) + (f - b) * (d - b) ≤ 0 then X = (((a - e) * (a - e) + (b - f) * (b - f) : Int) : Rat)
  else if (c - a) * (c - a) + (d - b) * (d - b) ≤ (e - a) * (c - a) + (f - b) * (d - b) then X = (((c - e) * (c - e) + (d - f) * (d - f) : Int) : Rat)
  else X * (((c - a) * (c - a) + (d - b) * (d - b) : Int) : Rat) = ((crossI a b c d e f * crossI a b c d e f : Int) : Rat)

theorem rat_le_div {X Y D : Rat} (hD : 0 < D) (h : X * D ≤ Y * D) : X ≤ Y := by
  rcases Std.lt_trichotomy X Y with c | c | c
  · exact Rat.le_of_lt c
  · rw [c]; exact Rat.le_refl
  · have := Rat.mul_pos (show 0 < X - Y by grind) hD
    grind

/-- what the program tells is near it -/
theorem seg_far {a b c d e f : Int} {σ : Rat} (h : SegNear a b c d e f σ) (hD : 0 < (c - a) * (c - a) + (d - b) * (d - b))
    (b1 : -1000 ≤ a ∧ a ≤ 1000) (b2 : -1000 ≤ b ∧ b ≤ 1000) (b3 : -1000 ≤ c ∧ c ≤ 1000) (b4 : -1000 ≤ d ∧ d ≤ 1000) (b5 : -1000 ≤ e ∧ e ≤ 1000) (b6 : -1000 ≤ f ∧ f ≤ 1000) :
    ∃ X, Dist2 a b c d e f X ∧ 0 ≤ X ∧ X ≤ 8000000 ∧ Within σ X (2 / 10000000) ∧ Within σ X (1001 / 100000000000 * X + 107 / 10000000000000000) ∧ 0 ≤ σ ∧
      (1 / 1000000 - 1 / 10000000000000 ≤ X → 1 / 1000000 + 24 / 100000000000000 ≤ X) := by
  have q : ∀ x y : Int, (-2000 ≤ x ∧ x ≤ 2000) → (-2000 ≤ y ∧ y ≤ 2000) → -4000000 ≤ x * y ∧ x * y ≤ 4000000 := fun x y hx hy => by
    have h1 : (x * y).natAbs ≤ 2000 * 2000 := by rw [Int.natAbs_mul]; exact Nat.mul_le_mul (by omega) (by omega)
    omega
  have q1 := q (e - a) (e - a) (by omega) (by omega)
  have q2 := q (f - b) (f - b) (by omega) (by omega)
  have q3 := q (e - c) (e - c) (by omega) (by omega)
  have q4 := q (f - d) (f - d) (by omega) (by omega)
  have q5 := q (c - a) (c - a) (by omega) (by omega)
  have q6 := q (d - b) (d - b) (by omega) (by omega)
  have ends : ∀ n : Int, 0 ≤ n → n ≤ 8000000 → σ = (n : Rat) → (0 : Rat) ≤ (n : Rat) ∧ (n : Rat) ≤ 8000000 ∧ Within σ (n : Rat) (2 / 10000000) ∧ Within σ (n : Rat) (1001 / 100000000000 * (n : Rat) + 107 / 10000000000000000) ∧ 0 ≤ σ ∧
      (1 / 1000000 - 1 / 10000000000000 ≤ (n : Rat) → 1 / 1000000 + 24 / 100000000000000 ≤ (n : Rat)) := by
    intro n h0 h1 hs
    have r0 : (0 : Rat) ≤ (n : Rat) := int_le (a := 0) h0
    have r1 : (n : Rat) ≤ 8000000 := int_le (b := 8000000) h1
    rw [hs]
    refine ⟨r0, r1, by constructor <;> grind, by constructor <;> grind, r0, fun hh => ?_⟩
    by_cases hn : n = 0
    · rw [hn] at hh
      have : ((0 : Int) : Rat) = 0 := rfl
      grind
    · have : (1 : Rat) ≤ (n : Rat) := int_le (a := 1) (by omega)
      grind
  have f1 : (a - e) * (a - e) + (b - f) * (b - f) = (e - a) * (e - a) + (f - b) * (f - b) := by grind
  have f2 : (c - e) * (c - e) + (d - f) * (d - f) = (e - c) * (e - c) + (f - d) * (f - d) := by grind
  have p1 := sq_nn (e - a)
  have p2 := sq_nn (f - b)
  have p3 := sq_nn (e - c)
  have p4 := sq_nn (f - d)
  have lag : crossI a b c d e f * crossI a b c d e f + ((e - a) * (c - a) + (f - b) * (d - b)) * ((e - a) * (c - a) + (f - b) * (d - b)) = ((e - a) * (e - a) + (f - b) * (f - b)) * ((c - a) * (c - a) + (d - b) * (d - b)) := by unfold crossI; grind
  have lag2 : crossI a b c d e f * crossI a b c d e f + ((c - a) * (c - a) + (d - b) * (d - b) - ((e - a) * (c - a) + (f - b) * (d - b))) * ((c - a) * (c - a) + (d - b) * (d - b) - ((e - a) * (c - a) + (f - b) * (d - b))) = ((e - c) * (e - c) + (f - d) * (f - d)) * ((c - a) * (c - a) + (d - b) * (d - b)) := by unfold crossI; grind
  unfold SegNear at h
  unfold Dist2
  by_cases c1 : (e - a) * (c - a) + (f - b) * (d - b) ≤ 0
  · rw [if_pos c1] at h
    rw [f1, f2]
    simp only [if_pos c1]
    exact ⟨_, rfl, ends _ (by omega) (by omega) h⟩
  · rw [if_neg c1] at h
    simp only [if_neg c1]
    by_cases c2 : (c - a) * (c - a) + (d - b) * (d - b) < (e - a) * (c - a) + (f - b) * (d - b)
    · rw [if_pos c2] at h
      simp only [if_pos (show (c - a) * (c - a) + (d - b) * (d - b) ≤ (e - a) * (c - a) + (f - b) * (d - b) by omega)]
      rw [f2]
      exact ⟨_, rfl, ends _ (by omega) (by omega) h⟩
    · rw [if_neg c2] at h
      obtain ⟨hσ, S, hS0, hS, hw⟩ := h
      have hC : ((c - a) * (f - b) - (d - b) * (e - a)) * ((c - a) * (f - b) - (d - b) * (e - a)) = crossI a b c d e f * crossI a b c d e f := rfl
      have hDr : (0 : Rat) < (((c - a) * (c - a) + (d - b) * (d - b) : Int) : Rat) := Rat.intCast_lt_intCast.2 hD
      have gap := gap_int (x := c - a) (y := d - b) (u := e - a) (v := f - b) hD (by omega)
      rw [hC] at hS gap
      have hS8 : S ≤ 8000000 := by
        refine rat_le_div hDr ?_
        rw [hS]
        have e1 : (8000000 : Rat) * (((c - a) * (c - a) + (d - b) * (d - b) : Int) : Rat) = ((8000000 * ((c - a) * (c - a) + (d - b) * (d - b)) : Int) : Rat) := by
          rw [Rat.intCast_mul]; rfl
        rw [e1]
        apply int_le
        have n1 := sq_nn ((e - a) * (c - a) + (f - b) * (d - b))
        have n2 := Int.mul_le_mul_of_nonneg_right (show (e - a) * (e - a) + (f - b) * (f - b) ≤ 8000000 by omega) (Int.le_of_lt hD)
        omega
      have hgap : 1 / 1000000 - 1 / 10000000000000 ≤ S → 1 / 1000000 + 24 / 100000000000000 ≤ S := by
        intro hh
        have g1 := Rat.mul_le_mul_of_nonneg_right hh (Rat.le_of_lt hDr)
        rw [hS] at g1
        have g2 : 9999999 * ((c - a) * (c - a) + (d - b) * (d - b)) ≤ 10000000000000 * (crossI a b c d e f * crossI a b c d e f) := by
          apply Rat.intCast_le_intCast.1
          rw [Rat.intCast_mul 9999999, Rat.intCast_mul 10000000000000]
          have e1 : ((9999999 : Int) : Rat) = 9999999 := rfl
          have e2 : ((10000000000000 : Int) : Rat) = 10000000000000 := rfl
          rw [e1, e2]
          generalize (((c - a) * (c - a) + (d - b) * (d - b) : Int) : Rat) = DD at *
          generalize ((crossI a b c d e f * crossI a b c d e f : Int) : Rat) = CC at *
          grind
        have g3 := int_le (gap g2)
        refine rat_le_div hDr ?_
        rw [hS]
        rw [Rat.intCast_mul 100000024, Rat.intCast_mul 100000000000000] at g3
        have e1 : ((100000024 : Int) : Rat) = 100000024 := rfl
        have e2 : ((100000000000000 : Int) : Rat) = 100000000000000 := rfl
        rw [e1, e2] at g3
        generalize (((c - a) * (c - a) + (d - b) * (d - b) : Int) : Rat) = DD at *
        generalize ((crossI a b c d e f * crossI a b c d e f : Int) : Rat) = CC at *
        grind
      have tl := tiny_lit
      have tp := tiny_pos
      have hA : Within σ S (2 / 10000000) := by
        obtain ⟨s, hs0, ⟨w1, w2⟩, w3, w4⟩ := hw (1 / 100000000000000) 100000000000000 (by grind) (by decide)
        rw [eps_lit] at w3 w4
        constructor <;> grind
      obtain ⟨s, hs0, ⟨w1, w2⟩, w3, w4⟩ := hw (1 / 100000000) 100000000 (by grind) (by decide)
      rw [eps_lit] at w3 w4
      have hB : Within σ S (1001 / 100000000000 * S + 107 / 10000000000000000) := by constructor <;> grind
      have hX : ¬ (c - a) * (c - a) + (d - b) * (d - b) ≤ (e - a) * (c - a) + (f - b) * (d - b) → ∃ X, X * (((c - a) * (c - a) + (d - b) * (d - b) : Int) : Rat) = ((crossI a b c d e f * crossI a b c d e f : Int) : Rat) ∧ 0 ≤ X ∧ X ≤ 8000000 ∧ Within σ X (2 / 10000000) ∧ Within σ X (1001 / 100000000000 * X + 107 / 10000000000000000) ∧ 0 ≤ σ ∧
          (1 / 1000000 - 1 / 10000000000000 ≤ X → 1 / 1000000 + 24 / 100000000000000 ≤ X) := fun _ => ⟨S, hS, hS0, hS8, hA, hB, hσ, hgap⟩
      by_cases c3 : (c - a) * (c - a) + (d - b) * (d - b) ≤ (e - a) * (c - a) + (f - b) * (d - b)
      · simp only [if_pos c3]
        have hSn : S = (((e - c) * (e - c) + (f - d) * (f - d) : Int) : Rat) := by
          rw [show (c - a) * (c - a) + (d - b) * (d - b) - ((e - a) * (c - a) + (f - b) * (d - b)) = 0 by omega, Int.mul_zero, Int.add_zero] at lag2
          have : S * (((c - a) * (c - a) + (d - b) * (d - b) : Int) : Rat) = (((e - c) * (e - c) + (f - d) * (f - d) : Int) : Rat) * (((c - a) * (c - a) + (d - b) * (d - b) : Int) : Rat) := by
            rw [hS, lag2, Rat.intCast_mul]
          generalize (((c - a) * (c - a) + (d - b) * (d - b) : Int) : Rat) = DD at *
          generalize (((e - c) * (e - c) + (f - d) * (f - d) : Int) : Rat) = NN at *
          exact Rat.le_antisymm (rat_le_div hDr (by rw [this]; exact Rat.le_refl)) (rat_le_div hDr (by rw [this]; exact Rat.le_refl))
        rw [f2, ← hSn]
        exact ⟨S, rfl, hS0, hS8, hA, hB, hσ, hgap⟩
      · simp only [if_neg c3]
        exact ⟨S, hS, hS0, hS8, hA, hB, hσ, hgap⟩

/-- spec.Near, as the program goes -/
def alongF (ax ay bx by' px py : Nat) : Nat := fop .add (fop .mul (fop .sub bx ax) (fop .sub px ax)) (fop .mul (fop .sub by' ay) (fop .sub py ay))
structure AlongOk (ax ay bx by' px py : Nat) : Prop where
  o1 : FOk .sub bx ax
  o2 : FOk .sub px ax
  o3 : FOk .mul (fop .sub bx ax) (fop .sub px ax)
  o4 : FOk .sub by' ay
  o5 : FOk .sub py ay
  o6 : FOk .mul (fop .sub by' ay) (fop .sub py ay)
  o7 : FOk .add (fop .mul (fop .sub bx ax) (fop .sub px ax)) (fop .mul (fop .sub by' ay) (fop .sub py ay))
inductive NearOk (ax ay bx by' px py far : Nat) : Bool → Prop
  | start (al : AlongOk ax ay bx by' px py) (ld : DsqOk ax ay bx by') (mo : MostOk far) (g : leF (alongF ax ay bx by' px py) 0 = true) (d : DsqOk ax ay px py) : NearOk ax ay bx by' px py far (leF (dsqF ax ay px py) (mostF far))
  | stop (al : AlongOk ax ay bx by' px py) (ld : DsqOk ax ay bx by') (mo : MostOk far) (g : leF (alongF ax ay bx by' px py) 0 = false) (g2 : geF (alongF ax ay bx by' px py) (dsqF ax ay bx by') = true) (d : DsqOk bx by' px py) : NearOk ax ay bx by' px py far (leF (dsqF bx by' px py) (mostF far))
  | side (al : AlongOk ax ay bx by' px py) (ld : DsqOk ax ay bx by') (mo : MostOk far) (g : leF (alongF ax ay bx by' px py) 0 = false) (g2 : geF (alongF ax ay bx by' px py) (dsqF ax ay bx by') = false) (d : CrossOk ax ay bx by' px py)
      (o1 : FOk .mul (crossF ax ay bx by' px py) (crossF ax ay bx by' px py)) (o2 : FOk .mul (mostF far) (dsqF ax ay bx by')) : NearOk ax ay bx by' px py far (leF (fop .mul (crossF ax ay bx by' px py) (crossF ax ay bx by' px py)) (fop .mul (mostF far) (dsqF ax ay bx by')))

theorem near_int {ax ay bx by' px py far : Nat} {a b c d e f : Int} {m X : Rat} (i1 : IsV ax a) (i2 : IsV ay b) (i3 : IsV bx c) (i4 : IsV by' d) (i5 : IsV px e) (i6 : IsV py f)
    (b1 : -2000 ≤ a ∧ a ≤ 2000) (b2 : -2000 ≤ b ∧ b ≤ 2000) (b3 : -2000 ≤ c ∧ c ≤ 2000) (b4 : -2000 ≤ d ∧ d ≤ 2000) (b5 : -2000 ≤ e ∧ e ≤ 2000) (b6 : -2000 ≤ f ∧ f ≤ 2000)
    (hD : 0 < (c - a) * (c - a) + (d - b) * (d - b)) (mo : MostOk far) (hm : IsV (mostF far) m) (m0 : 0 ≤ m) (m1 : m ≤ 40000000) (hX : Dist2 a b c d e f X) :
    (X + 2 / 10000000 ≤ m → NearOk ax ay bx by' px py far true) ∧ (m + (m * (1 / 9007199254740992) + 2 * tiny) < X → NearOk ax ay bx by' px py far false) := by
  have tp := tiny_pos
  have tl := tiny_lit
  obtain ⟨ld, vl⟩ := dsq_int i1 i2 i3 i4 (by omega) (by omega) (by omega) (by omega)
  obtain ⟨da, va⟩ := dsq_int i1 i2 i5 i6 (by omega) (by omega) (by omega) (by omega)
  obtain ⟨db, vb⟩ := dsq_int i3 i4 i5 i6 (by omega) (by omega) (by omega) (by omega)
  obtain ⟨co, vc, c1, c2⟩ := cross_int i1 i2 i3 i4 i5 i6 (by omega) (by omega) (by omega) (by omega) (by omega) (by omega)
  have q : ∀ x y : Int, (-4000 ≤ x ∧ x ≤ 4000) → (-4000 ≤ y ∧ y ≤ 4000) → -16000000 ≤ x * y ∧ x * y ≤ 16000000 := fun x y hx hy => by
    have h1 : (x * y).natAbs ≤ 4000 * 4000 := by rw [Int.natAbs_mul]; exact Nat.mul_le_mul (by omega) (by omega)
    omega
  have q1 := q (c - a) (e - a) (by omega) (by omega)
  have q2 := q (d - b) (f - b) (by omega) (by omega)
  have q3 := q (a - c) (a - c) (by omega) (by omega)
  have q4 := q (b - d) (b - d) (by omega) (by omega)
  obtain ⟨o1, v1⟩ := sub_int i3 i1 (by omega)
  obtain ⟨o2, v2⟩ := sub_int i5 i1 (by omega)
  obtain ⟨o3, v3⟩ := mul_int v1 v2 (by omega)
  obtain ⟨o4, v4⟩ := sub_int i4 i2 (by omega)
  obtain ⟨o5, v5⟩ := sub_int i6 i2 (by omega)
  obtain ⟨o6, v6⟩ := mul_int v4 v5 (by omega)
  obtain ⟨o7, v7⟩ := add_int v3 v6 (by omega)
  have al : AlongOk ax ay bx by' px py := ⟨o1, o2, o3, o4, o5, o6, o7⟩
  have va7 : IsV (alongF ax ay bx by' px py) (((e - a) * (c - a) + (f - b) * (d - b) : Int) : Rat) := by
    rw [Int.mul_comm (e - a), Int.mul_comm (f - b)]; exact v7
  have eD : (a - c) * (a - c) + (b - d) * (b - d) = (c - a) * (c - a) + (d - b) * (d - b) := by grind
  have g1 := leF_int va7 zero_isV
  have g2 := geF_int va7 vl
  rw [eD] at g2 vl
  unfold Dist2 at hX
  have ends : ∀ (n : Nat) (z : Int), IsV n (z : Rat) → X = (z : Rat) → (X + 2 / 10000000 ≤ m → leF n (mostF far) = true) ∧ (m + (m * (1 / 9007199254740992) + 2 * tiny) < X → leF n (mostF far) = false) := by
    intro n z hn hz
    rw [leF_isV hn hm, ← hz]
    exact ⟨fun h => decide_eq_true (by grind), fun h => decide_eq_false (by grind)⟩
  by_cases k1 : (e - a) * (c - a) + (f - b) * (d - b) ≤ 0
  · rw [if_pos k1] at hX
    rw [decide_eq_true k1] at g1
    obtain ⟨y, n⟩ := ends _ _ va hX
    exact ⟨fun h => y h ▸ .start al ld mo g1 da, fun h => n h ▸ .start al ld mo g1 da⟩
  · rw [if_neg k1] at hX
    rw [decide_eq_false k1] at g1
    by_cases k2 : (c - a) * (c - a) + (d - b) * (d - b) ≤ (e - a) * (c - a) + (f - b) * (d - b)
    · rw [if_pos k2] at hX
      rw [decide_eq_true k2] at g2
      obtain ⟨y, n⟩ := ends _ _ vb hX
      exact ⟨fun h => y h ▸ .stop al ld mo g1 g2 db, fun h => n h ▸ .stop al ld mo g1 g2 db⟩
    · rw [if_neg k2] at hX
      rw [decide_eq_false k2] at g2
      have hcc : (crossI a b c d e f * crossI a b c d e f).natAbs ≤ 32000000 * 32000000 := by
        rw [Int.natAbs_mul]; exact Nat.mul_le_mul (by omega) (by omega)
      obtain ⟨o8, v8⟩ := mul_int vc vc (by omega)
      have hDr : (1 : Rat) ≤ (((c - a) * (c - a) + (d - b) * (d - b) : Int) : Rat) := int_le (a := 1) (by omega)
      have hDr2 : (((c - a) * (c - a) + (d - b) * (d - b) : Int) : Rat) ≤ 32000000 := int_le (b := 32000000) (by omega)
      rw [← hX] at v8
      generalize (((c - a) * (c - a) + (d - b) * (d - b) : Int) : Rat) = DD at *
      have mD : 0 ≤ m * DD := Rat.mul_nonneg m0 (by grind)
      have mD2 : m * DD ≤ 40000000 * DD := Rat.mul_le_mul_of_nonneg_right m1 (by grind)
      obtain ⟨r, o9, v9, w1, w2⟩ := mul_near (M := m * DD) hm vl (by constructor <;> grind) (huge_ge (by grind))
      rw [eps_lit] at w1 w2
      have ans := leF_isV v8 v9
      refine ⟨fun h => ?_, fun h => ?_⟩
      · have h' := Rat.mul_le_mul_of_nonneg_right h (show 0 ≤ DD by grind)
        rw [decide_eq_true (by grind)] at ans
        exact ans ▸ .side al ld mo g1 g2 co o8 o9
      · have h' := Rat.mul_le_mul_of_nonneg_right (Rat.le_of_lt h) (show 0 ≤ DD by grind)
        have h2 : (m + (m * (1 / 9007199254740992) + 2 * tiny)) * DD = m * DD + m * DD * (1 / 9007199254740992) + 2 * (tiny * DD) := by grind
        have h3 : tiny * 1 ≤ tiny * DD := Rat.mul_le_mul_of_nonneg_left hDr (Rat.le_of_lt tp)
        rw [decide_eq_false (by grind)] at ans
        exact ans ▸ .side al ld mo g1 g2 co o8 o9

/-- both questions of the law -/
theorem seg_any {ax ay bx by' px py : Nat} {a b c d e f : Int} (i1 : IsV ax a) (i2 : IsV ay b) (i3 : IsV bx c) (i4 : IsV by' d) (i5 : IsV px e) (i6 : IsV py f) (hD : 0 < (c - a) * (c - a) + (d - b) * (d - b))
    (b1 : -1000 ≤ a ∧ a ≤ 1000) (b2 : -1000 ≤ b ∧ b ≤ 1000) (b3 : -1000 ≤ c ∧ c ≤ 1000) (b4 : -1000 ≤ d ∧ d ≤ 1000) (b5 : -1000 ≤ e ∧ e ≤ 1000) (b6 : -1000 ≤ f ∧ f ≤ 1000) :
    ∃ r, SegOk ax ay bx by' px py r ∧ SOk r ∧ FOk .add (sqrtF r) 4517329193108106637 ∧ NearOk ax ay bx by' px py (fop .add (sqrtF r) 4517329193108106637) true ∧
      (ltF (sqrtF r) 4562254508917369340 = false → FOk .sub (sqrtF r) 4562254508917369340 ∧ NearOk ax ay bx by' px py (fop .sub (sqrtF r) 4562254508917369340) false) := by
  obtain ⟨r, σ, s, v, n⟩ := seg_near i1 i2 i3 i4 i5 i6 (by omega) (by omega) (by omega) (by omega) (by omega) (by omega)
  obtain ⟨X, hX, X0, X8, ⟨A1, A2⟩, ⟨B1, B2⟩, s0, hgap⟩ := seg_far n hD b1 b2 b3 b4 b5 b6
  obtain ⟨so, t, vt, t0, w1, w2⟩ := sqrtF_near v s0 (huge_ge (by grind))
  rw [eps_lit] at w1 w2
  have t6 : t ≤ 6000 := by
    rcases Std.lt_trichotomy t 6000 with g | g | g
    · exact Rat.le_of_lt g
    · rw [g]; exact Rat.le_refl
    · have h1 := Rat.mul_le_mul_of_nonneg_left (Rat.le_of_lt g) t0
      grind
  obtain ⟨o1, mo1, m1, vm1, p1, p2, p3⟩ := far_yes (X := X) vt t0 t6 (by grind)
  refine ⟨r, s, so, o1, (near_int i1 i2 i3 i4 i5 i6 (by omega) (by omega) (by omega) (by omega) (by omega) (by omega) hD mo1 vm1 p1 p2 hX).1 p3, fun hl => ?_⟩
  obtain ⟨k, hk, k1, k2⟩ := milli_v
  rw [ltF_isV vt hk] at hl
  have hl := of_decide_eq_false hl
  have hge : geF (sqrtF r) 4562254508917369340 = true := by
    rw [geF_isV vt hk]; exact decide_eq_true (by grind)
  have ht2 : 1 / 1000000 ≤ t * t := by
    have h1 := Rat.mul_le_mul_of_nonneg_left (show 1 / 1000 ≤ t by grind) t0
    grind
  obtain ⟨o2, mo2, m2, vm2, p4, p5, p6⟩ := far_no (X := X) vt t6 hge (by grind) (by grind) (hgap (by grind))
  exact ⟨o2, (near_int i1 i2 i3 i4 i5 i6 (by omega) (by omega) (by omega) (by omega) (by omega) (by omega) hD mo2 vm2 p4 p5 hX).2 p6⟩
end Go.Proofs.Ytglopopdmkgooaa
