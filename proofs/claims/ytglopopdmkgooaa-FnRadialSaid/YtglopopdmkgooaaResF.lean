/-
  Points along a segment that lies along an axis, as the program reckons them: plain facts on the numbers, no program in sight.
-/
import Derived.Test.YtglopopdmkgooaaSegF
import Derived.Test.YtglopopdmkgooaaNearF
namespace Go.Proofs.Ytglopopdmkgooaa
open PubFl

theorem rat_cases (a b : Rat) : a < b ∨ b ≤ a := by grind
theorem int_pos {D : Int} (h : 1 ≤ D) : (0 : Rat) < D ∧ (1 : Rat) ≤ D ∧ (D : Rat) ≠ 0 := by
  have h1 := int_le h
  have e : ((1 : Int) : Rat) = 1 := rfl
  rw [e] at h1
  refine ⟨by grind, h1, by grind⟩
theorem int_hi {D : Int} {n : Nat} (h : D ≤ (n : Int)) : (D : Rat) ≤ (n : Rat) := by
  have := int_le h
  exact this

/-- a quotient of whole numbers, nearly -/
theorem quot_near {n d : Nat} {N D : Int} (hn : IsV n N) (hd : IsV d D) (hD : 1 ≤ D) (b1 : D ≤ 100) (b2 : 0 ≤ N) (b3 : N ≤ 60000) :
    FOk .quo n d ∧ ∃ q r : Rat, q * D = N ∧ IsV (fop .quo n d) r ∧ Within r q (1 / 10000000000) ∧ 0 ≤ q ∧ q ≤ 60000 := by
  obtain ⟨p1, p2, p3⟩ := int_pos hD
  obtain ⟨q, hq⟩ : ∃ q : Rat, q = (N : Rat) / D := ⟨_, rfl⟩
  have hqD : q * D = N := by rw [hq]; grind
  have n0 : (0 : Rat) ≤ N := int_le b2
  have n1 : (N : Rat) ≤ 60000 := int_le b3
  have q0 : 0 ≤ q := by
    rcases rat_cases q 0 with c | c
    · have := Rat.mul_pos (show 0 < -q by grind) p1
      grind
    · exact c
  have q1 : q ≤ 60000 := by
    have := Rat.mul_nonneg q0 (show 0 ≤ (D : Rat) - 1 by grind)
    grind
  obtain ⟨r, o, v, hw⟩ := quo_near (M := 60000) hn hd p3 (by rw [← hq]; constructor <;> grind) (huge_ge (by grind))
  rw [← hq] at hw
  have tl := tiny_lit
  have el := eps_lit
  obtain ⟨w1, w2⟩ := hw
  rw [el] at w1 w2
  exact ⟨o, q, r, hqD, v, ⟨by grind, by grind⟩, q0, q1⟩

theorem near_le {q r : Rat} {N D L : Int} (hq : q * D = N) (hw : Within r q (1 / 10000000000)) (hD : 1 ≤ D) (b1 : D ≤ 100) (hL : 1 ≤ L) (h : N ≤ L * D - L) : r ≤ L := by
  obtain ⟨p1, p2, p3⟩ := int_pos hD
  obtain ⟨l1, l2, l3⟩ := int_pos hL
  have hh := int_le h
  rw [Rat.intCast_sub, Rat.intCast_mul] at hh
  have d1 : (D : Rat) ≤ 100 := int_le b1
  obtain ⟨w1, w2⟩ := hw
  rcases rat_cases (L : Rat) r with c | c
  · have := Rat.mul_pos (show 0 < q - L + 1 / 10000000000 by grind) p1
    grind
  · exact c
theorem near_gt {q r : Rat} {N D L : Int} (hq : q * D = N) (hw : Within r q (1 / 10000000000)) (hD : 1 ≤ D) (b1 : D ≤ 100) (hL : 1 ≤ L) (h : L * D + L ≤ N) : (L : Rat) < r := by
  obtain ⟨p1, p2, p3⟩ := int_pos hD
  obtain ⟨l1, l2, l3⟩ := int_pos hL
  have hh := int_le h
  rw [Rat.intCast_add, Rat.intCast_mul] at hh
  have d1 : (D : Rat) ≤ 100 := int_le b1
  obtain ⟨w1, w2⟩ := hw
  rcases rat_cases (L : Rat) r with c | c
  · exact c
  · have := Rat.mul_nonneg (show 0 ≤ (L : Rat) - q + 1 / 10000000000 by grind) (Rat.le_of_lt p1)
    grind

/-- a point that lies so far along -/
structure ResOk (c d x0 x1 y0 y1 : Nat) : Prop where
  o1 : FOk .sub c 0
  o2 : FOk .quo (fop .sub c 0) d
  o3 : FOk .sub x1 x0
  o4 : FOk .mul (fop .quo (fop .sub c 0) d) (fop .sub x1 x0)
  o5 : FOk .add x0 (fop .mul (fop .quo (fop .sub c 0) d) (fop .sub x1 x0))
  o6 : FOk .sub y1 y0
  o7 : FOk .mul (fop .quo (fop .sub c 0) d) (fop .sub y1 y0)
  o8 : FOk .add y0 (fop .mul (fop .quo (fop .sub c 0) d) (fop .sub y1 y0))
def resP (c d x0 x1 : Nat) : Nat := fop .add x0 (fop .mul (fop .quo (fop .sub c 0) d) (fop .sub x1 x0))

theorem res_pt {c d x0 x1 y0 y1 : Nat} {r q : Rat} {a L b : Int} (hc : IsV c r) (hw : Within r q (1 / 10000000000)) (hq0 : 0 ≤ q) (hq1 : q ≤ L) (hd : IsV d L) (hL : 1 ≤ L) (hL2 : L ≤ 500)
    (h0 : IsV x0 a) (h1 : IsV x1 ((a + L : Int) : Rat)) (ha : -1000 ≤ a ∧ a ≤ 1000) (hb : -1000 ≤ b ∧ b ≤ 1000) (k0 : IsV y0 b) (k1 : IsV y1 b) :
    ResOk c d x0 x1 y0 y1 ∧ (∃ v, IsV (resP c d x0 x1) v ∧ Within v (a + q) (1 / 100000000)) ∧ IsV (resP c d y0 y1) b := by
  obtain ⟨l1, l2, l3⟩ := int_pos hL
  have l4 : (L : Rat) ≤ 500 := int_le hL2
  have a1 : (-1000 : Rat) ≤ a := int_le ha.1
  have a2 : (a : Rat) ≤ 1000 := int_le ha.2
  have tl := tiny_lit
  have tp := tiny_pos
  have el := eps_lit
  obtain ⟨w1, w2⟩ := hw
  obtain ⟨r', o1, v1, hw1⟩ := sub_near (M := 501) hc zero_isV (by rw [show ((0 : Int) : Rat) = 0 from rfl]; constructor <;> grind) (huge_ge (by grind))
  rw [show ((0 : Int) : Rat) = 0 from rfl] at hw1
  obtain ⟨w3, w4⟩ := hw1
  rw [el] at w3 w4
  obtain ⟨ρ, hρ⟩ : ∃ ρ : Rat, ρ = r' / L := ⟨_, rfl⟩
  have hρL : ρ * L = r' := by rw [hρ]; grind
  have ρ0 : -1 ≤ ρ := by
    rcases rat_cases ρ (-1) with c | c
    · have := Rat.mul_pos (show 0 < -1 - ρ by grind) l1
      grind
    · exact c
  have ρ1 : ρ ≤ 2 := by
    rcases rat_cases 2 ρ with c | c
    · have := Rat.mul_pos (show 0 < ρ - 2 by grind) l1
      grind
    · exact c
  obtain ⟨τ, o2, v2, hw2⟩ := quo_near (M := 2) v1 hd l3 (by rw [← hρ]; constructor <;> grind) (huge_ge (by grind))
  rw [← hρ] at hw2
  obtain ⟨w5, w6⟩ := hw2
  rw [el] at w5 w6
  obtain ⟨o3, v3⟩ := sub_int h1 h0 (by omega)
  rw [show a + L - a = L by omega] at v3
  have τ0 : -2 ≤ τ := by grind
  have τ1 : τ ≤ 3 := by grind
  obtain ⟨m, o4, v4, hw4⟩ := mul_near (M := 1500) v2 v3 (by
    have := mag_mul (p := τ) (q := (L : Rat)) (A := 3) (B := 500) ⟨by grind, τ1⟩ ⟨by grind, l4⟩
    obtain ⟨g1, g2⟩ := this
    constructor <;> grind) (huge_ge (by grind))
  obtain ⟨w7, w8⟩ := hw4
  rw [el] at w7 w8
  have e1 := Rat.mul_nonneg (show 0 ≤ τ - ρ + 1 / 1000000000000000 by grind) (Rat.le_of_lt l1)
  have e2 := Rat.mul_nonneg (show 0 ≤ ρ - τ + 1 / 1000000000000000 by grind) (Rat.le_of_lt l1)
  have m1 : q - 1 / 1000000000 ≤ m := by grind
  have m2 : m ≤ q + 1 / 1000000000 := by grind
  obtain ⟨v, o5, v5, hw5⟩ := add_near (M := 3000) h0 v4 (by constructor <;> grind) (huge_ge (by grind))
  obtain ⟨w9, w10⟩ := hw5
  rw [el] at w9 w10
  obtain ⟨o6, v6⟩ := sub_int k1 k0 (by omega)
  rw [show b - b = 0 by omega] at v6
  obtain ⟨o7, v7⟩ := mul_few v2 v6 (by rw [show ((0 : Int) : Rat) = 0 from rfl, Rat.mul_zero]; exact few_int (n := 0) (by decide))
  have z0 : τ * ((0 : Int) : Rat) = ((0 : Int) : Rat) := by rw [show ((0 : Int) : Rat) = 0 from rfl, Rat.mul_zero]
  rw [z0] at v7
  obtain ⟨o8, v8⟩ := add_int k0 v7 (by omega)
  rw [Int.add_zero] at v8
  exact ⟨⟨o1, o2, o3, o4, o5, o6, o7, o8⟩, ⟨v, v5, by constructor <;> grind⟩, v8⟩

/-- the law's test at a point -/
theorem res_far {px x0 t : Nat} {v q r : Rat} {a : Int} (hp : IsV px v) (hw : Within v (a + q) (1 / 100000000)) (h0 : IsV x0 a) (ha : -1000 ≤ a ∧ a ≤ 1000) (ht : IsV t r) (hr : Within r q (1 / 10000000000)) (q0 : 0 ≤ q) (q1 : q ≤ 500) :
    FOk .sub px x0 ∧ FOk .sub (fop .sub px x0) t ∧ gtF (absF (fop .sub (fop .sub px x0) t)) 4517329193108106637 = false := by
  have a1 : (-1000 : Rat) ≤ a := int_le ha.1
  have a2 : (a : Rat) ≤ 1000 := int_le ha.2
  have tl := tiny_lit
  have tp := tiny_pos
  have el := eps_lit
  obtain ⟨w1, w2⟩ := hw
  obtain ⟨w3, w4⟩ := hr
  obtain ⟨u, o1, v1, hu⟩ := sub_near (M := 600) hp h0 (by constructor <;> grind) (huge_ge (by grind))
  obtain ⟨w5, w6⟩ := hu
  rw [el] at w5 w6
  obtain ⟨z, o2, v2, hz⟩ := sub_near (M := 1) v1 ht (by constructor <;> grind) (huge_ge (by grind))
  obtain ⟨w7, w8⟩ := hz
  rw [el] at w7 w8
  obtain ⟨mu, hmu, g1, g2⟩ := micro_v
  refine ⟨o1, o2, ?_⟩
  rw [gtF_isV (absF_isV v2) hmu]
  refine decide_eq_false ?_
  split <;> grind
/-- the distance at which the point of step s stands, in a line of p parts -/
def curW (d p s : Nat) : Nat := if s = 1 then fop .quo d (fl p) else if s = p then d else fop .quo (fop .mul d (fl s)) (fl p)
theorem cur_ok {d p : Nat} {L : Int} (hd : IsV d L) (hL : 1 ≤ L) (hL2 : L ≤ 500) (hp : 1 ≤ p) (hp2 : p ≤ 100) (s : Nat) (h2 : s ≤ p + 1) :
    FOk .mul d (fl s) ∧ FOk .quo (fop .mul d (fl s)) (fl p) ∧ FOk .quo d (fl p) ∧ IsV (fop .mul d (fl s)) ((L * s : Int) : Rat) := by
  have vs := fl_isV (n := (s : Int)) (by omega)
  have vp := fl_isV (n := (p : Int)) (by omega)
  have b0 : 0 ≤ L * s := Int.mul_nonneg (by omega) (by omega)
  have b1 : L * s ≤ 500 * 101 := Int.mul_le_mul hL2 (by omega) (by omega) (by omega)
  obtain ⟨o1, v1⟩ := mul_int hd vs (by omega)
  obtain ⟨o2, _⟩ := quot_near v1 vp (by omega) (by omega) b0 (by omega)
  obtain ⟨o3, _⟩ := quot_near hd vp (by omega) (by omega) (by omega) (by omega)
  exact ⟨o1, o2, o3, v1⟩
theorem cur_v {d p : Nat} {L : Int} (hd : IsV d L) (hL : 1 ≤ L) (hL2 : L ≤ 500) (hp : 1 ≤ p) (hp2 : p ≤ 100) (s : Nat) (h1 : 1 ≤ s) (h2 : s ≤ p) :
    ∃ q r : Rat, q * ((p : Int) : Rat) = ((L * s : Int) : Rat) ∧ IsV (curW d p s) r ∧ Within r q (1 / 10000000000) ∧ 0 ≤ q ∧ q ≤ L ∧ r ≤ L := by
  have vp := fl_isV (n := (p : Int)) (by omega)
  obtain ⟨p1, p2, p3⟩ := int_pos (show (1 : Int) ≤ (p : Int) by omega)
  obtain ⟨l1, l2, l3⟩ := int_pos hL
  have b0 : 0 ≤ L * s := Int.mul_nonneg (by omega) (by omega)
  have b1 : L * s ≤ 500 * 101 := Int.mul_le_mul hL2 (by omega) (by omega) (by omega)
  have qle : ∀ q : Rat, q * ((p : Int) : Rat) = ((L * s : Int) : Rat) → q ≤ L := fun q hq => by
    have hh : ((L * s : Int) : Rat) ≤ (L : Rat) * ((p : Int) : Rat) := by
      rw [← Rat.intCast_mul]
      exact int_le (Int.mul_le_mul_of_nonneg_left (by omega) (by omega))
    rcases rat_cases (L : Rat) q with c | c
    · have := Rat.mul_pos (show 0 < q - L by grind) p1
      grind
    · exact c
  by_cases hsp : s = p
  · subst hsp
    have he : (L : Rat) * ((s : Int) : Rat) = ((L * s : Int) : Rat) := by rw [Rat.intCast_mul]
    refine ⟨L, L, he, ?_, ⟨by grind, by grind⟩, by grind, by grind, by grind⟩
    unfold curW
    by_cases h : s = 1
    · rw [if_pos h]
      subst h
      exact (quo_few (v := (L : Rat)) hd vp p3 (by rw [show (((1 : Nat) : Int) : Rat) = 1 from rfl, Rat.mul_one]) (few_int (by omega))).2
    · rw [if_neg h, if_pos rfl]; exact hd
  · have hle : L * s ≤ L * p - L := by
      have := Int.mul_le_mul_of_nonneg_left (show (s : Int) ≤ (p : Int) - 1 by omega) (show 0 ≤ L by omega)
      rw [Int.mul_sub, Int.mul_one] at this
      exact this
    by_cases h : s = 1
    · subst h
      obtain ⟨o, q, r, hq, v, hw, q0, _⟩ := quot_near hd vp (by omega) (by omega) (by omega) (by omega)
      have hq' : q * ((p : Int) : Rat) = ((L * (1 : Nat) : Int) : Rat) := by rw [hq]; simp
      refine ⟨q, r, hq', ?_, hw, q0, qle q hq', ?_⟩
      · unfold curW; rw [if_pos rfl]; exact v
      · exact near_le hq' hw (by omega) (by omega) hL hle
    · obtain ⟨_, _, _, v1⟩ := cur_ok hd hL hL2 hp hp2 s (by omega)
      obtain ⟨o, q, r, hq, v, hw, q0, _⟩ := quot_near v1 vp (by omega) (by omega) b0 (by omega)
      refine ⟨q, r, hq, ?_, hw, q0, qle q hq, near_le hq hw (by omega) (by omega) hL hle⟩
      unfold curW; rw [if_neg h, if_neg hsp]; exact v
theorem cur_last {d p : Nat} {L : Int} (hd : IsV d L) (hL : 1 ≤ L) (hL2 : L ≤ 500) (hp : 1 ≤ p) (hp2 : p ≤ 100) : ∃ r : Rat, IsV (curW d p (p + 1)) r ∧ (L : Rat) < r := by
  have vp := fl_isV (n := (p : Int)) (by omega)
  obtain ⟨_, _, _, v1⟩ := cur_ok hd hL hL2 hp hp2 (p + 1) (by omega)
  have b0 : 0 ≤ L * ((p + 1 : Nat) : Int) := Int.mul_nonneg (by omega) (by omega)
  have b1 : L * ((p + 1 : Nat) : Int) ≤ 500 * 101 := Int.mul_le_mul hL2 (by omega) (by omega) (by omega)
  obtain ⟨o, q, r, hq, v, hw, q0, _⟩ := quot_near v1 vp (by omega) (by omega) b0 (by omega)
  refine ⟨r, ?_, near_gt hq hw (by omega) (by omega) hL ?_⟩
  · unfold curW; rw [if_neg (by omega), if_neg (by omega)]; exact v
  · rw [show ((p + 1 : Nat) : Int) = (p : Int) + 1 by omega, Int.mul_add, Int.mul_one]; exact Int.le_refl _
theorem add_zero_word {d : Nat} {L : Int} (hd : IsV d L) (hL : 1 ≤ L) (hL2 : L ≤ 500) : FOk .add 0 d ∧ fop .add 0 d = d := by
  obtain ⟨o, v⟩ := add_int zero_isV hd (by omega)
  rw [Int.zero_add] at v
  obtain ⟨_, _, l3⟩ := int_pos hL
  exact ⟨o, isV_bits v hd l3⟩

/-- the points that the program makes, before it lays the last one -/
def resL (x0 y0 x1 y1 d p s : Nat) : List (Nat × Nat) := (x0, y0) :: (List.range (s - 1)).map fun j => (resP (curW d p (j + 1)) d x0 x1, resP (curW d p (j + 1)) d y0 y1)
theorem resL_length (x0 y0 x1 y1 d p s : Nat) (h : 1 ≤ s) : (resL x0 y0 x1 y1 d p s).length = s := by simp [resL]; omega
theorem resL_succ (x0 y0 x1 y1 d p s : Nat) (h : 1 ≤ s) : resL x0 y0 x1 y1 d p (s + 1) = resL x0 y0 x1 y1 d p s ++ [(resP (curW d p s) d x0 x1, resP (curW d p s) d y0 y1)] := by
  unfold resL
  rw [show s + 1 - 1 = (s - 1) + 1 by omega, List.range_succ, List.map_append]
  simp [show s - 1 + 1 = s by omega]
theorem resL_get (x0 y0 x1 y1 d p s i : Nat) (h : i < (resL x0 y0 x1 y1 d p s).length) (h1 : 1 ≤ i) : (resL x0 y0 x1 y1 d p s)[i] = (resP (curW d p i) d x0 x1, resP (curW d p i) d y0 y1) := by
  obtain ⟨j, rfl⟩ : ∃ j, i = j + 1 := ⟨i - 1, by omega⟩
  simp [resL]

/-- the two ends of a segment along an axis -/
structure AxisEnds (x0 y0 x1 y1 : Nat) (a b L : Int) : Prop where
  h0 : IsV x0 a
  k0 : IsV y0 b
  h1 : IsV x1 ((a + L : Int) : Rat)
  k1 : IsV y1 b
  ha : -1000 ≤ a ∧ a ≤ 1000
  hb : -1000 ≤ b ∧ b ≤ 1000
  L1 : 1 ≤ L
  L2 : L ≤ 500
theorem AxisEnds.dist {x0 y0 x1 y1 : Nat} {a b L : Int} (h : AxisEnds x0 y0 x1 y1 a b L) : DsqOk x0 y0 x1 y1 ∧ SOk (dsqF x0 y0 x1 y1) ∧ IsV (sqrtF (dsqF x0 y0 x1 y1)) (L : Rat) := by
  obtain ⟨h0, k0, h1, k1, ha, hb, l1, l2⟩ := h
  obtain ⟨ok, v⟩ := dsq_int h0 k0 h1 k1 (by omega) (by omega) (by omega) (by omega)
  have hp : (a - (a + L)) * (a - (a + L)) + (b - b) * (b - b) = L * L := by
    rw [show a - (a + L) = -L by omega, show b - b = 0 by omega, Int.neg_mul_neg]; omega
  rw [hp] at v
  obtain ⟨so, vs⟩ := sqrtF_exact (v := (L : Rat)) v (int_le (a := 0) (by omega)) (by rw [Rat.intCast_mul]) (few_int (by omega))
  exact ⟨ok, so, vs⟩
theorem AxisEnds.same {x0 y0 x1 y1 : Nat} {a b L : Int} (h : AxisEnds x0 y0 x1 y1 a b L) : (eqF x0 x0 && eqF y0 y0) = true ∧ (eqF x0 x1 && eqF y0 y1) = false := by
  obtain ⟨h0, k0, h1, k1, ha, hb, l1, l2⟩ := h
  rw [eqF_int h0 h0, eqF_int k0 k0, eqF_int h0 h1]
  rw [decide_eq_false (show ¬ a = a + L by omega)]
  simp
end Go.Proofs.Ytglopopdmkgooaa
