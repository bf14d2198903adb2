/-
  The distance of a point from a segment, as the program reckons it: plain facts on the numbers, no program in sight.
-/
import Derived.Test.YtohidpmkoehmcaaGreatDoorMG1
set_option linter.all false
namespace Go.Proofs.YtohidpmkoehmcaaGreatDoor
open PubFl

theorem eps_lit : eps = 1 / 9007199254740992 := by decide +kernel
theorem tiny_lit : tiny ≤ 1 / 1606938044258990275541962092341162602522202993782792835301376 := by decide +kernel
theorem one_isV : IsV 4607182418800017408 ((1 : Int) : Rat) := by
  rw [show (4607182418800017408 : Nat) = fl 1 by kernel_rfl]; exact fl_isV (by decide)

theorem mag_mul {p q A B : Rat} (h1 : Mag p A) (h2 : Mag q B) : Mag (p * q) (A * B) := by
  obtain ⟨a1, a2⟩ := h1
  obtain ⟨b1, b2⟩ := h2
  have c1 := Rat.mul_nonneg (show 0 ≤ A - p by grind) (show 0 ≤ B + q by grind)
  have c2 := Rat.mul_nonneg (show 0 ≤ A + p by grind) (show 0 ≤ B - q by grind)
  have c3 := Rat.mul_nonneg (show 0 ≤ A - p by grind) (show 0 ≤ B - q by grind)
  have c4 := Rat.mul_nonneg (show 0 ≤ A + p by grind) (show 0 ≤ B + q by grind)
  constructor <;> grind
theorem rsq_nn (a : Rat) : 0 ≤ a * a := by
  by_cases h : 0 ≤ a
  · exact Rat.mul_nonneg h h
  · have := Rat.mul_nonneg (show 0 ≤ -a by grind) (show 0 ≤ -a by grind)
    grind
theorem huge_ge {M : Rat} (h : M ≤ 1267650600228229401496703205376) : M ≤ huge := Rat.le_trans h (by rw [huge_eq]; decide +kernel)
theorem int_le {a b : Int} (h : a ≤ b) : (a : Rat) ≤ (b : Rat) := Rat.intCast_le_intCast.2 h

/-- a quotient of whole numbers, and how it lies to 0 and 1 -/
theorem quot_class {n d : Nat} {N D : Int} (hn : IsV n N) (hd : IsV d D) (hD : 0 < D) (b1 : D ≤ 67108864) (b2 : -67108864 ≤ N ∧ N ≤ 67108864) :
    FOk .quo n d ∧ ∃ τ : Rat, IsV (fop .quo n d) τ ∧ (0 < N → N ≤ D → Within τ ((N : Rat) / D) (3 * eps)) ∧ gtF (fop .quo n d) 4607182418800017408 = decide (D < N) ∧ gtF (fop .quo n d) 0 = decide (0 < N) := by
  have hDq : (D : Rat) ≠ 0 := by
    intro h
    have := Rat.intCast_lt_intCast.2 hD
    rw [h] at this; exact absurd this (by decide)
  have key : FOk .quo n d ∧ ∃ τ : Rat, IsV (fop .quo n d) τ ∧ (0 < N → N ≤ D → Within τ ((N : Rat) / D) (3 * eps)) ∧ (1 < τ ↔ D < N) ∧ (0 < τ ↔ 0 < N) := by
    by_cases h0 : N = 0
    · subst h0
      obtain ⟨o, v⟩ := quo_few (v := 0) hn hd hDq (by rw [Rat.zero_mul]; rfl) (few_int (n := 0) (by decide))
      refine ⟨o, 0, v, fun h => by omega, ⟨fun h => absurd h (by decide), fun h => by omega⟩, ⟨fun h => absurd h (by decide), fun h => by omega⟩⟩
    · by_cases h1 : N = D
      · subst h1
        obtain ⟨o, v⟩ := quo_few (v := 1) hn hd hDq (by rw [Rat.one_mul]) (few_int (n := 1) (by decide))
        refine ⟨o, 1, v, fun _ _ => ?_, ⟨fun h => absurd h (by decide), fun h => by omega⟩, ⟨fun _ => by omega, fun _ => by decide⟩⟩
        have e : (N : Rat) / N = 1 := by grind
        rw [e, eps_lit]
        constructor <;> grind
      · obtain ⟨h, hh⟩ : ∃ h : Rat, h = 1 / D := ⟨_, rfl⟩
        have hDh : (D : Rat) * h = 1 := by rw [hh]; grind
        have hDp : (0 : Rat) < D := Rat.intCast_lt_intCast.2 hD
        have hhp : 0 < h := by
          rcases Std.lt_trichotomy h 0 with c | c | c
          · have := Rat.mul_pos hDp (show 0 < -h by grind)
            grind
          · grind
          · exact c
        have hq : (N : Rat) / D = N * h := by rw [hh]; grind
        have hlow : 1 / 67108864 ≤ h := by
          have := Rat.mul_le_mul_of_nonneg_right (int_le b1) (Rat.le_of_lt hhp)
          rw [hDh] at this
          have e : ((67108864 : Int) : Rat) = 67108864 := rfl
          rw [e] at this
          grind
        have hhi : h ≤ 1 := by
          have := Rat.mul_le_mul_of_nonneg_right (int_le (show 1 ≤ D by omega)) (Rat.le_of_lt hhp)
          rw [hDh] at this
          have e : ((1 : Int) : Rat) = 1 := rfl
          rw [e] at this
          grind
        have cmp : ∀ A B : Int, A ≤ B → (A : Rat) * h ≤ (B : Rat) * h := fun A B hAB => Rat.mul_le_mul_of_nonneg_right (int_le hAB) (Rat.le_of_lt hhp)
        have castadd : ∀ k : Int, ((D + k : Int) : Rat) * h = 1 + (k : Rat) * h := fun k => by rw [Rat.intCast_add]; grind
        have tl := tiny_lit
        have tp := tiny_pos
        have el := eps_lit
        have e1 : ((1 : Int) : Rat) = 1 := rfl
        have e2 : ((-1 : Int) : Rat) = -1 := rfl
        have e3 : ((67108864 : Int) : Rat) = 67108864 := rfl
        rw [hq]
        by_cases hpos : 0 < N
        · have hq1 : h ≤ N * h := by have := cmp 1 N (by omega); rw [e1] at this; grind
          have hq2 : (N : Rat) * h ≤ 67108864 := by
            have := cmp N 67108864 (by omega); rw [e3] at this; grind
          obtain ⟨τ, o, v, hw⟩ := quo_near (M := N * h) hn hd hDq (by rw [hq]; constructor <;> grind) (huge_ge (by grind))
          rw [hq] at hw
          obtain ⟨w1, w2⟩ := hw
          refine ⟨o, τ, v, fun _ hle => ?_, ?_, ?_⟩
          · have := cmp N D hle
            rw [hDh] at this
            rw [el] at w1 w2 ⊢
            constructor <;> grind
          · by_cases hlt : D < N
            · have := cmp (D + 1) N (by omega)
              rw [castadd, e1] at this
              rw [el] at w1 w2
              exact ⟨fun _ => hlt, fun _ => by grind⟩
            · have := cmp N (D + -1) (by omega)
              rw [castadd, e2] at this
              rw [el] at w1 w2
              exact ⟨fun _ => by grind, fun _ => by omega⟩
          · rw [el] at w1 w2
            exact ⟨fun _ => hpos, fun _ => by grind⟩
        · have hq1 : N * h ≤ -h := by have := cmp N (-1) (by omega); rw [e2] at this; grind
          have hq2 : -67108864 ≤ (N : Rat) * h := by
            have := cmp (-67108864) N (by omega); rw [show ((-67108864 : Int) : Rat) = -67108864 from rfl] at this; grind
          obtain ⟨τ, o, v, hw⟩ := quo_near (M := -(N * h)) hn hd hDq (by rw [hq]; constructor <;> grind) (huge_ge (by grind))
          rw [hq] at hw
          obtain ⟨w1, w2⟩ := hw
          rw [el] at w1 w2
          refine ⟨o, τ, v, fun h => by omega, ⟨fun _ => by grind, fun _ => by omega⟩, ⟨fun _ => by grind, fun _ => by omega⟩⟩
  obtain ⟨o, τ, v, hw, i1, i2⟩ := key
  refine ⟨o, τ, v, hw, ?_, ?_⟩
  · rw [gtF_isV v one_isV]
    exact decide_eq_decide.2 i1
  · rw [gtF_isV v zero_isV]
    exact decide_eq_decide.2 i2

/-- one coordinate of what lies between the point and the foot -/
theorem mid_near {ax dx t px : Nat} {a D p : Int} {τ q : Rat} (ha : IsV ax a) (hd : IsV dx D) (ht : IsV t τ) (hp : IsV px p)
    (b1 : -2000 ≤ a ∧ a ≤ 2000) (b2 : -4000 ≤ D ∧ D ≤ 4000) (b3 : -2000 ≤ p ∧ p ≤ 2000) (hq : 0 ≤ q ∧ q ≤ 1) (hw : Within τ q (3 * eps)) :
    FOk .mul dx t ∧ FOk .add ax (fop .mul dx t) ∧ FOk .sub px (fop .add ax (fop .mul dx t)) ∧ ∃ u, IsV (fop .sub px (fop .add ax (fop .mul dx t))) u ∧ Within u (p - a - D * q) (1 / 137438953472) ∧ Mag u 8192 := by
  have tl := tiny_lit
  have tp := tiny_pos
  have A : Mag (a : Rat) 2000 := ⟨int_le b1.1, int_le b1.2⟩
  have P : Mag (p : Rat) 2000 := ⟨int_le b3.1, int_le b3.2⟩
  have Dm : Mag (D : Rat) 4000 := ⟨int_le b2.1, int_le b2.2⟩
  rw [eps_lit] at hw
  have hτ : Mag τ (1 + 1 / 1048576) := by obtain ⟨w1, w2⟩ := hw; constructor <;> grind
  have m1 := mag_mul Dm hτ
  have m2 := mag_mul Dm (show Mag (τ - q) (3 * (1 / 9007199254740992)) by obtain ⟨w1, w2⟩ := hw; constructor <;> grind)
  have m3 := mag_mul Dm (show Mag q 1 by constructor <;> grind)
  obtain ⟨r1, o1, v1, w1⟩ := mul_near (M := 4096) hd ht (by obtain ⟨x, y⟩ := m1; constructor <;> grind) (huge_ge (by decide))
  rw [eps_lit] at w1
  have e : (D : Rat) * (τ - q) = D * τ - D * q := by grind
  rw [e] at m2
  have k1 : Within r1 (D * q) (16385 / 9007199254740992) := by
    obtain ⟨x1, x2⟩ := w1
    obtain ⟨y1, y2⟩ := m2
    constructor <;> grind
  clear m1 m2 w1
  obtain ⟨r2, o2, v2, w2⟩ := add_near (M := 8192) ha v1 (by obtain ⟨x, y⟩ := A; obtain ⟨z1, z2⟩ := k1; obtain ⟨y1, y2⟩ := m3; constructor <;> grind) (huge_ge (by decide))
  rw [eps_lit] at w2
  have k2 : Within r2 (a + D * q) (24578 / 9007199254740992) := by
    obtain ⟨x1, x2⟩ := k1
    obtain ⟨y1, y2⟩ := w2
    constructor <;> grind
  clear w2 k1
  obtain ⟨r3, o3, v3, w3⟩ := sub_near (M := 8192) hp v2 (by obtain ⟨x, y⟩ := A; obtain ⟨x', y'⟩ := P; obtain ⟨z1, z2⟩ := k2; obtain ⟨y1, y2⟩ := m3; constructor <;> grind) (huge_ge (by decide))
  rw [eps_lit] at w3
  refine ⟨o1, o2, o3, r3, v3, ?_, ?_⟩
  · obtain ⟨x1, x2⟩ := k2
    obtain ⟨y1, y2⟩ := w3
    constructor <;> grind
  · obtain ⟨x, y⟩ := A
    obtain ⟨x', y'⟩ := P
    obtain ⟨z1, z2⟩ := k2
    obtain ⟨y1, y2⟩ := m3
    obtain ⟨u1, u2⟩ := w3
    constructor <;> grind

/-- what is not less than 0 is not written less -/
theorem write_nn {s : Bool} {m : Nat} {e : Int} {v M : Rat} (hv : rat s m e = v) (hM : Mag v M) (hh : M ≤ huge) (h0 : 0 ≤ v) {r : Rat} (hr : IsV (Ieee.double.nearest s m e) r) : 0 ≤ r := by
  by_cases hm : m = 0
  · subst hm
    rw [rat_zero] at hv
    subst hv
    have := write_few (rat_zero s e) (few_int (n := 0) (by decide))
    rw [isV_unique hr this]; exact Rat.le_refl
  · subst hv
    have h1 := mag_rat hM
    have h2 : (m : Rat) * (2 : Rat) ^ e ≤ (2 : Rat) ^ (1000 : Int) := by rw [← huge_eq]; exact Rat.le_trans h1 hh
    have h3 := nearest_isV0 s m e hm (by have := log2_of_bound hm h2; omega)
    rw [isV_unique hr h3]
    cases s
    · unfold keptRat
      rw [rat_false]; exact rat_pos _ _
    · exfalso
      rw [rat_true] at h0
      have hm' : (0 : Rat) < (m : Rat) := Rat.natCast_pos.2 (by omega)
      have := Rat.mul_pos hm' (zpow_pos e)
      grind
theorem mul_nn {x : Nat} {p r M : Rat} (hx : IsV x p) (hM : Mag (p * p) M) (hh : M ≤ huge) (hr : IsV (fop .mul x x) r) : 0 ≤ r := by
  obtain ⟨s, m, e, h1, h2⟩ := mul_datum hx hx
  obtain ⟨a, b⟩ := fop_of (op := .mul) h1
  rw [b] at hr
  exact write_nn h2 hM hh (rsq_nn p) hr
theorem add_nn {x y : Nat} {p q r M : Rat} (hx : IsV x p) (hy : IsV y q) (hp : 0 ≤ p) (hq : 0 ≤ q) (hM : Mag (p + q) M) (hh : M ≤ huge) (hr : IsV (fop .add x y) r) : 0 ≤ r := by
  obtain ⟨s, m, e, h1, h2⟩ := add_datum hx hy
  obtain ⟨a, b⟩ := fop_of (op := .add) h1
  rw [b] at hr
  exact write_nn h2 hM hh (by grind) hr

/-- the sum of two squares -/
theorem sumsq_near {u v : Nat} {p q : Rat} (hu : IsV u p) (hv : IsV v q) (mp : Mag p 8192) (mq : Mag q 8192) :
    FOk .mul u u ∧ FOk .mul v v ∧ FOk .add (fop .mul u u) (fop .mul v v) ∧ ∃ σ, IsV (fop .add (fop .mul u u) (fop .mul v v)) σ ∧ 0 ≤ σ ∧ Within σ (p * p + q * q) (3 * ((p * p + q * q) * eps) + 4 * tiny) := by
  have np := rsq_nn p
  have nq := rsq_nn q
  have m1 := mag_mul mp mp
  have m2 := mag_mul mq mq
  have tl := tiny_lit
  have tp := tiny_pos
  obtain ⟨r1, o1, v1, w1⟩ := mul_near (M := p * p) hu hu (by constructor <;> grind) (huge_ge (by obtain ⟨x, y⟩ := m1; grind))
  obtain ⟨r2, o2, v2, w2⟩ := mul_near (M := q * q) hv hv (by constructor <;> grind) (huge_ge (by obtain ⟨x, y⟩ := m2; grind))
  have n1 : 0 ≤ r1 := mul_nn (M := p * p) hu (by constructor <;> grind) (huge_ge (by obtain ⟨x, y⟩ := m1; grind)) v1
  have n2 : 0 ≤ r2 := mul_nn (M := q * q) hv (by constructor <;> grind) (huge_ge (by obtain ⟨x, y⟩ := m2; grind)) v2
  rw [eps_lit] at w1 w2 ⊢
  obtain ⟨x1, x2⟩ := w1
  obtain ⟨y1, y2⟩ := w2
  obtain ⟨r3, o3, v3, w3⟩ := add_near (M := 2 * (p * p + q * q) + 2 * tiny) v1 v2 (by constructor <;> grind) (huge_ge (by obtain ⟨x, y⟩ := m1; obtain ⟨x', y'⟩ := m2; grind))
  rw [eps_lit] at w3
  obtain ⟨z1, z2⟩ := w3
  have n3 : 0 ≤ r3 := add_nn (M := 2 * (p * p + q * q) + 2 * tiny) v1 v2 n1 n2 (by constructor <;> grind) (huge_ge (by obtain ⟨x, y⟩ := m1; obtain ⟨x', y'⟩ := m2; grind)) v3
  refine ⟨o1, o2, o3, r3, v3, n3, ?_, ?_⟩ <;> grind
theorem sq_shift {u U E k K : Rat} (h : Within u U E) (hk : k * K = 1) (hK : 0 < K) : Within (u * u) (U * U) (k * (U * U) + (K + 1) * (E * E)) := by
  obtain ⟨h1, h2⟩ := h
  have p1 := Rat.mul_nonneg (rsq_nn (k * U - (u - U))) (Rat.le_of_lt hK)
  have p2 := Rat.mul_nonneg (rsq_nn (k * U + (u - U))) (Rat.le_of_lt hK)
  have p3 := Rat.mul_nonneg (show 0 ≤ E - (u - U) by grind) (show 0 ≤ E + (u - U) by grind)
  have p4 := Rat.mul_nonneg p3 (Rat.le_of_lt hK)
  have e1 : (k * U - (u - U)) * (k * U - (u - U)) * K = k * (U * U) - 2 * (U * (u - U)) + K * ((u - U) * (u - U)) := by
    have : (k * U - (u - U)) * (k * U - (u - U)) * K = (k * K) * (k * (U * U)) - (k * K) * (2 * (U * (u - U))) + K * ((u - U) * (u - U)) := by grind
    rw [this, hk]; grind
  have e2 : (k * U + (u - U)) * (k * U + (u - U)) * K = k * (U * U) + 2 * (U * (u - U)) + K * ((u - U) * (u - U)) := by
    have : (k * U + (u - U)) * (k * U + (u - U)) * K = (k * K) * (k * (U * U)) + (k * K) * (2 * (U * (u - U))) + K * ((u - U) * (u - U)) := by grind
    rw [this, hk]; grind
  rw [e1] at p1
  rw [e2] at p2
  have e3 : u * u = U * U + 2 * (U * (u - U)) + (u - U) * (u - U) := by grind
  have p5 := rsq_nn (u - U)
  constructor <;> grind
theorem foot_sq (P Q X Y q N D : Rat) (hN : N = P * X + Q * Y) (hD : D = X * X + Y * Y) (hq : q * D = N) : ((P - X * q) * (P - X * q) + (Q - Y * q) * (Q - Y * q)) * D = (X * Q - Y * P) * (X * Q - Y * P) := by
  have e : ((P - X * q) * (P - X * q) + (Q - Y * q) * (Q - Y * q)) * D = (P * P + Q * Q) * D - 2 * (q * D) * (P * X + Q * Y) + (q * D) * (q * (X * X + Y * Y)) := by grind
  rw [e, ← hD, hq, hN, hD]; grind

theorem sq_pos {a : Int} (h : a ≠ 0) : 0 < a * a := by
  have h1 := sq_nn a
  have h2 : a * a ≠ 0 := fun h2 => by rcases Int.mul_eq_zero.1 h2 with h3 | h3 <;> exact h h3
  omega
theorem quot01 {N D : Int} (h0 : 0 ≤ N) (h1 : N ≤ D) (hD : 0 < D) : 0 ≤ (N : Rat) / D ∧ (N : Rat) / D ≤ 1 := by
  have hp : (0 : Rat) < D := Rat.intCast_lt_intCast.2 hD
  have hn : (0 : Rat) ≤ N := Rat.intCast_le_intCast.2 h0
  have hd : (N : Rat) ≤ D := Rat.intCast_le_intCast.2 h1
  have e : (N : Rat) / D * D = N := by grind
  generalize (N : Rat) / D = q at *
  constructor
  · rcases Std.lt_trichotomy q 0 with c | c | c
    · have := Rat.mul_pos (show 0 < -q by grind) hp
      grind
    · grind
    · grind
  · rcases Std.lt_trichotomy q 1 with c | c | c
    · grind
    · grind
    · have := Rat.mul_pos (show 0 < q - 1 by grind) hp
      grind

/-- how far along -/
def tF (ax ay bx by' px py : Nat) : Nat := fop .quo (fop .add (fop .mul (fop .sub px ax) (fop .sub bx ax)) (fop .mul (fop .sub py ay) (fop .sub by' ay))) (fop .add (fop .mul (fop .sub bx ax) (fop .sub bx ax)) (fop .mul (fop .sub by' ay) (fop .sub by' ay)))
structure TOk (ax ay bx by' px py : Nat) : Prop where
  o1 : FOk .sub px ax
  o2 : FOk .sub py ay
  o3 : FOk .mul (fop .sub px ax) (fop .sub bx ax)
  o4 : FOk .mul (fop .sub py ay) (fop .sub by' ay)
  o5 : FOk .add (fop .mul (fop .sub px ax) (fop .sub bx ax)) (fop .mul (fop .sub py ay) (fop .sub by' ay))
  o6 : FOk .mul (fop .sub bx ax) (fop .sub bx ax)
  o7 : FOk .mul (fop .sub by' ay) (fop .sub by' ay)
  o8 : FOk .add (fop .mul (fop .sub bx ax) (fop .sub bx ax)) (fop .mul (fop .sub by' ay) (fop .sub by' ay))
  o9 : FOk .quo (fop .add (fop .mul (fop .sub px ax) (fop .sub bx ax)) (fop .mul (fop .sub py ay) (fop .sub by' ay))) (fop .add (fop .mul (fop .sub bx ax) (fop .sub bx ax)) (fop .mul (fop .sub by' ay) (fop .sub by' ay)))
structure MidOk (ax dx t px : Nat) : Prop where
  o1 : FOk .mul dx t
  o2 : FOk .add ax (fop .mul dx t)
inductive SegOk (ax ay bx by' px py : Nat) : Nat → Prop
  | same (o1 : FOk .sub bx ax) (o2 : FOk .sub by' ay) (n1 : neF (fop .sub bx ax) 0 = false) (n2 : neF (fop .sub by' ay) 0 = false) (d : DsqOk px py ax ay) : SegOk ax ay bx by' px py (dsqF px py ax ay)
  | first (o1 : FOk .sub bx ax) (o2 : FOk .sub by' ay) (n : neF (fop .sub bx ax) 0 = true ∨ neF (fop .sub bx ax) 0 = false ∧ neF (fop .sub by' ay) 0 = true) (t : TOk ax ay bx by' px py) (g1 : gtF (tF ax ay bx by' px py) 4607182418800017408 = false) (g2 : gtF (tF ax ay bx by' px py) 0 = false) (d : DsqOk px py ax ay) : SegOk ax ay bx by' px py (dsqF px py ax ay)
  | last (o1 : FOk .sub bx ax) (o2 : FOk .sub by' ay) (n : neF (fop .sub bx ax) 0 = true ∨ neF (fop .sub bx ax) 0 = false ∧ neF (fop .sub by' ay) 0 = true) (t : TOk ax ay bx by' px py) (g1 : gtF (tF ax ay bx by' px py) 4607182418800017408 = true) (d : DsqOk px py bx by') : SegOk ax ay bx by' px py (dsqF px py bx by')
  | mid (o1 : FOk .sub bx ax) (o2 : FOk .sub by' ay) (n : neF (fop .sub bx ax) 0 = true ∨ neF (fop .sub bx ax) 0 = false ∧ neF (fop .sub by' ay) 0 = true) (t : TOk ax ay bx by' px py) (g1 : gtF (tF ax ay bx by' px py) 4607182418800017408 = false) (g2 : gtF (tF ax ay bx by' px py) 0 = true)
      (m1 : MidOk ax (fop .sub bx ax) (tF ax ay bx by' px py) px) (m2 : MidOk ay (fop .sub by' ay) (tF ax ay bx by' px py) py)
      (d : DsqOk px py (fop .add ax (fop .mul (fop .sub bx ax) (tF ax ay bx by' px py))) (fop .add ay (fop .mul (fop .sub by' ay) (tF ax ay bx by' px py)))) :
      SegOk ax ay bx by' px py (dsqF px py (fop .add ax (fop .mul (fop .sub bx ax) (tF ax ay bx by' px py))) (fop .add ay (fop .mul (fop .sub by' ay) (tF ax ay bx by' px py))))

/-- the square of the distance of (e, f) from the segment (a, b)-(c, d), nearly -/
def SegNear (a b c d e f : Int) (σ : Rat) : Prop :=
  if (e - a) * (c - a) + (f - b) * (d - b) ≤ 0 then σ = (((e - a) * (e - a) + (f - b) * (f - b) : Int) : Rat)
  else if (c - a) * (c - a) + (d - b) * (d - b) < (e - a) * (c - a) + (f - b) * (d - b) then σ = (((e - c) * (e - c) + (f - d) * (f - d) : Int) : Rat)
  else 0 ≤ σ ∧ ∃ S : Rat, 0 ≤ S ∧ S * (((c - a) * (c - a) + (d - b) * (d - b) : Int) : Rat) = ((((c - a) * (f - b) - (d - b) * (e - a)) * ((c - a) * (f - b) - (d - b) * (e - a)) : Int) : Rat) ∧
    ∀ k K : Rat, k * K = 1 → 0 < K → ∃ s : Rat, 0 ≤ s ∧ Within s S (k * S + 2 * ((K + 1) * (1 / 137438953472 * (1 / 137438953472)))) ∧ Within σ s (3 * (s * eps) + 4 * tiny)

theorem seg_near {ax ay bx by' px py : Nat} {a b c d e f : Int} (i1 : IsV ax a) (i2 : IsV ay b) (i3 : IsV bx c) (i4 : IsV by' d) (i5 : IsV px e) (i6 : IsV py f)
    (b1 : -2000 ≤ a ∧ a ≤ 2000) (b2 : -2000 ≤ b ∧ b ≤ 2000) (b3 : -2000 ≤ c ∧ c ≤ 2000) (b4 : -2000 ≤ d ∧ d ≤ 2000) (b5 : -2000 ≤ e ∧ e ≤ 2000) (b6 : -2000 ≤ f ∧ f ≤ 2000) :
    ∃ r σ, SegOk ax ay bx by' px py r ∧ IsV r σ ∧ SegNear a b c d e f σ := by
  obtain ⟨o1, v1⟩ := sub_int i3 i1 (by omega)
  obtain ⟨o2, v2⟩ := sub_int i4 i2 (by omega)
  obtain ⟨o3, v3⟩ := sub_int i5 i1 (by omega)
  obtain ⟨o4, v4⟩ := sub_int i6 i2 (by omega)
  obtain ⟨dA, vA⟩ := dsq_int i5 i6 i1 i2 (by omega) (by omega) (by omega) (by omega)
  obtain ⟨dB, vB⟩ := dsq_int i5 i6 i3 i4 (by omega) (by omega) (by omega) (by omega)
  have q : ∀ x y : Int, (-4000 ≤ x ∧ x ≤ 4000) → (-4000 ≤ y ∧ y ≤ 4000) → -16000000 ≤ x * y ∧ x * y ≤ 16000000 := fun x y hx hy => by
    have h1 : (x * y).natAbs ≤ 4000 * 4000 := by rw [Int.natAbs_mul]; exact Nat.mul_le_mul (by omega) (by omega)
    omega
  have q1 := q (e - a) (c - a) (by omega) (by omega)
  have q2 := q (f - b) (d - b) (by omega) (by omega)
  have q3 := q (c - a) (c - a) (by omega) (by omega)
  have q4 := q (d - b) (d - b) (by omega) (by omega)
  obtain ⟨o5, v5⟩ := mul_int v3 v1 (by omega)
  obtain ⟨o6, v6⟩ := mul_int v4 v2 (by omega)
  obtain ⟨o7, v7⟩ := add_int v5 v6 (by omega)
  obtain ⟨o8, v8⟩ := mul_int v1 v1 (by omega)
  obtain ⟨o9, v9⟩ := mul_int v2 v2 (by omega)
  obtain ⟨o10, v10⟩ := add_int v8 v9 (by omega)
  have n1 : neF (fop .sub bx ax) 0 = decide (c - a ≠ 0) := neF_int v1 zero_isV
  have n2 : neF (fop .sub by' ay) 0 = decide (d - b ≠ 0) := neF_int v2 zero_isV
  have p3 := sq_nn (c - a)
  have p4 := sq_nn (d - b)
  by_cases hz : c - a = 0 ∧ d - b = 0
  · obtain ⟨z1, z2⟩ := hz
    refine ⟨_, _, .same o1 o2 (by rw [n1]; simp [z1]) (by rw [n2]; simp [z2]) dA, vA, ?_⟩
    unfold SegNear
    rw [if_pos (by rw [z1, z2]; omega)]
  · have hn : neF (fop .sub bx ax) 0 = true ∨ neF (fop .sub bx ax) 0 = false ∧ neF (fop .sub by' ay) 0 = true := by
      rw [n1, n2]; simp only [decide_eq_true_eq, decide_eq_false_iff_not]; omega
    have hD : 0 < (c - a) * (c - a) + (d - b) * (d - b) := by
      by_cases z1 : c - a = 0
      · have : d - b ≠ 0 := fun z2 => hz ⟨z1, z2⟩
        have := sq_pos this
        omega
      · have := sq_pos z1
        omega
    obtain ⟨o11, τ, vt, hw, g1, g2⟩ := quot_class v7 v10 hD (by omega) (by omega)
    have T : TOk ax ay bx by' px py := ⟨o3, o4, o5, o6, o7, o8, o9, o10, o11⟩
    by_cases c1 : (c - a) * (c - a) + (d - b) * (d - b) < (e - a) * (c - a) + (f - b) * (d - b)
    · refine ⟨_, _, .last o1 o2 hn T (by unfold tF; rw [g1]; exact decide_eq_true c1) dB, vB, ?_⟩
      unfold SegNear
      rw [if_neg (by omega), if_pos c1]
    · by_cases c2 : 0 < (e - a) * (c - a) + (f - b) * (d - b)
      · have hw := hw c2 (by omega)
        have h01 := quot01 (show 0 ≤ (e - a) * (c - a) + (f - b) * (d - b) by omega) (by omega) hD
        obtain ⟨m1, m2, m3, u, vu, wu, mu⟩ := mid_near (D := c - a) i1 v1 vt i5 (by omega) (by omega) (by omega) h01 hw
        obtain ⟨l1, l2, l3, v, vv, wv, mv⟩ := mid_near (D := d - b) i2 v2 vt i6 (by omega) (by omega) (by omega) h01 hw
        obtain ⟨s1, s2, s3, σ, vσ, nσ, wσ⟩ := sumsq_near vu vv mu mv
        refine ⟨_, σ, .mid o1 o2 hn T (by unfold tF; rw [g1]; exact decide_eq_false c1) (by unfold tF; rw [g2]; exact decide_eq_true c2) ⟨m1, m2⟩ ⟨l1, l2⟩ ⟨m3, l3, s1, s2, s3⟩, vσ, ?_⟩
        unfold SegNear
        rw [if_neg (by omega), if_neg c1]
        have hDr : (((c - a) * (c - a) + (d - b) * (d - b) : Int) : Rat) ≠ 0 := by
          intro h
          have := Rat.intCast_lt_intCast.2 hD
          rw [h] at this; exact absurd this (by decide)
        generalize hqq : (((e - a) * (c - a) + (f - b) * (d - b) : Int) : Rat) / (((c - a) * (c - a) + (d - b) * (d - b) : Int) : Rat) = qq at *
        have hqD : qq * (((c - a) * (c - a) + (d - b) * (d - b) : Int) : Rat) = (((e - a) * (c - a) + (f - b) * (d - b) : Int) : Rat) := by rw [← hqq]; grind
        have hf := foot_sq ((e : Rat) - a) ((f : Rat) - b) ((c - a : Int) : Rat) ((d - b : Int) : Rat) qq _ _ (by simp only [Rat.intCast_add, Rat.intCast_mul, Rat.intCast_sub]) (by simp only [Rat.intCast_add, Rat.intCast_mul, Rat.intCast_sub]) hqD
        refine ⟨nσ, ((e : Rat) - a - ((c - a : Int) : Rat) * qq) * ((e : Rat) - a - ((c - a : Int) : Rat) * qq) + ((f : Rat) - b - ((d - b : Int) : Rat) * qq) * ((f : Rat) - b - ((d - b : Int) : Rat) * qq), ?_, ?_, ?_⟩
        · have := rsq_nn ((e : Rat) - a - ((c - a : Int) : Rat) * qq)
          have := rsq_nn ((f : Rat) - b - ((d - b : Int) : Rat) * qq)
          grind
        · rw [hf]
          simp only [Rat.intCast_add, Rat.intCast_mul, Rat.intCast_sub]
        · intro k K hk hK
          refine ⟨u * u + v * v, ?_, ?_, wσ⟩
          · have := rsq_nn u
            have := rsq_nn v
            grind
          · obtain ⟨x1, x2⟩ := sq_shift wu hk hK
            obtain ⟨y1, y2⟩ := sq_shift wv hk hK
            constructor <;> grind
      · refine ⟨_, _, .first o1 o2 hn T (by unfold tF; rw [g1]; exact decide_eq_false c1) (by unfold tF; rw [g2]; exact decide_eq_false c2) dA, vA, ?_⟩
        unfold SegNear
        rw [if_pos (by omega)]
end Go.Proofs.YtohidpmkoehmcaaGreatDoor
