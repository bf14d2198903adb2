/-
  A line with whole coordinates, all of its points different: plain facts.
-/
import Derived.Test.YtglopopdmkgooaaSim2
import Derived.Test.YtglopopdmkgooaaLawBox
import Derived.Test.YtglopopdmkgooaaNearG
import Derived.Test.YtglopopdmkgooaaMPl
import Derived.Deep.Slices
namespace Go.Proofs.Ytglopopdmkgooaa
open PubFl Go.RowKit PubVis

/-- two points of a list are equal, as the program has it -/
def ptEq (ps : List (Nat × Nat)) (i j : Nat) : Bool := eqF (ptAt ps i).1 (ptAt ps j).1 && eqF (ptAt ps i).2 (ptAt ps j).2
def rowDiff (ps : List (Nat × Nat)) (i : Nat) : Bool := (List.range i).all fun j => !ptEq ps i j
def diffB (ps : List (Nat × Nat)) : Bool := (List.range ps.length).all fun i => rowDiff ps i
def lineB (ps : List (Nat × Nat)) : Bool := arePtsB ps 40 && decide (2 ≤ ps.length) && diffB ps
structure LineI (ps : List (Nat × Nat)) (X Y : Nat → Int) : Prop where
  v : ∀ (i : Nat) (h : i < ps.length), IsV (ps[i]'h).1 (X i) ∧ IsV (ps[i]'h).2 (Y i)
  b : ∀ i, i < ps.length → (-1000 ≤ X i ∧ X i ≤ 1000) ∧ (-1000 ≤ Y i ∧ Y i ≤ 1000)
  ne : ∀ i j, i < ps.length → j < ps.length → i ≠ j → ¬ (X i = X j ∧ Y i = Y j)
theorem ptEq_int {ps : List (Nat × Nat)} {X Y : Nat → Int} (v : ∀ (i : Nat) (h : i < ps.length), IsV (ps[i]'h).1 (X i) ∧ IsV (ps[i]'h).2 (Y i)) {i j : Nat} (hi : i < ps.length) (hj : j < ps.length) : ptEq ps i j = (decide (X i = X j) && decide (Y i = Y j)) := by
  unfold ptEq ptAt
  rw [getD_in _ _ hi, getD_in _ _ hj, eqF_int (v i hi).1 (v j hj).1, eqF_int (v i hi).2 (v j hj).2]
theorem LineI.eq {ps : List (Nat × Nat)} {X Y : Nat → Int} (h : LineI ps X Y) {i j : Nat} (hi : i < ps.length) (hj : j < ps.length) : ptEq ps i j = decide (i = j) := by
  rw [ptEq_int h.v hi hj]
  by_cases c : i = j
  · subst c; simp
  · have := h.ne i j hi hj c
    rw [decide_eq_false c]
    by_cases c2 : X i = X j
    · rw [decide_eq_true c2, decide_eq_false (fun e => this ⟨c2, e⟩)]; rfl
    · rw [decide_eq_false c2]; rfl
theorem lineB_i {ps : List (Nat × Nat)} (hbits : Bits ps) (h : lineB ps = true) : 2 ≤ ps.length ∧ ps.length ≤ 40 ∧ ∃ X Y, LineI ps X Y := by
  unfold lineB arePtsB at h
  simp only [Bool.and_eq_true, decide_eq_true_eq, List.all_eq_true] at h
  obtain ⟨⟨⟨hall, hle⟩, h2⟩, hd⟩ := h
  have key : ∀ i, i < ps.length → ∃ p : Int × Int, ∀ (h : i < ps.length), IsV (ps[i]'h).1 p.1 ∧ IsV (ps[i]'h).2 p.2 ∧ (-1000 ≤ p.1 ∧ p.1 ≤ 1000) ∧ (-1000 ≤ p.2 ∧ p.2 ≤ 1000) := fun i hi => by
    obtain ⟨g0, g1⟩ := hbits i hi
    obtain ⟨a, b, i1, i2, h1, h2⟩ := pointB_int g0 g1 (hall _ (List.getElem_mem hi))
    exact ⟨(a, b), fun _ => ⟨i1, i2, h1, h2⟩⟩
  obtain ⟨f, hf⟩ := Go.Deep.choose_lt key
  refine ⟨h2, by omega, fun i => (f i).1, fun i => (f i).2, ?_⟩
  have hv : ∀ (i : Nat) (h : i < ps.length), IsV (ps[i]'h).1 ((f i).1 : Rat) ∧ IsV (ps[i]'h).2 ((f i).2 : Rat) := fun i hi => ⟨(hf i hi hi).1, (hf i hi hi).2.1⟩
  refine ⟨hv, fun i hi => (hf i hi hi).2.2, ?_⟩
  have hlt : ∀ i j, i < ps.length → j < i → ¬ ((f i).1 = (f j).1 ∧ (f i).2 = (f j).2) := fun i j hi hj ⟨e1, e2⟩ => by
    unfold diffB at hd
    have h1 := List.all_eq_true.1 hd i (List.mem_range.2 hi)
    unfold rowDiff at h1
    have h2 := List.all_eq_true.1 h1 j (List.mem_range.2 hj)
    rw [ptEq_int hv hi (by omega), decide_eq_true e1, decide_eq_true e2] at h2
    cases h2
  intro i j hi hj hne ⟨e1, e2⟩
  rcases Nat.lt_or_ge i j with c | c
  · exact hlt j i hj c ⟨e1.symm, e2.symm⟩
  · exact hlt i j hi (by omega) ⟨e1, e2⟩

variable {ps : List (Nat × Nat)} {X Y : Nat → Int}
/-- twice the area of a triangle of three points -/
def triI (X Y : Nat → Int) (i j k : Nat) : Int := ((crossI (X i) (Y i) (X j) (Y j) (X k) (Y k)).natAbs : Int)
theorem LineI.tri (h : LineI ps X Y) : TriH ps (triI X Y) := ⟨fun i j k hi hj hk => by
  obtain ⟨i1, i2⟩ := h.v i hi
  obtain ⟨i3, i4⟩ := h.v j hj
  obtain ⟨i5, i6⟩ := h.v k hk
  obtain ⟨b1, b2⟩ := h.b i hi
  obtain ⟨b3, b4⟩ := h.b j hj
  obtain ⟨b5, b6⟩ := h.b k hk
  obtain ⟨o, v, c1, c2⟩ := cross_int i1 i2 i3 i4 i5 i6 (by omega) (by omega) (by omega) (by omega) (by omega) (by omega)
  have hv := absF_int v
  exact ⟨o, hv, by unfold triI; omega, by unfold triI infK; omega⟩⟩
/-- the square of the distance of two points -/
def dI (X Y : Nat → Int) (c i : Nat) : Int := (X c - X i) * (X c - X i) + (Y c - Y i) * (Y c - Y i)
theorem LineI.dsq (h : LineI ps X Y) {c i : Nat} (hc : c < ps.length) (hi : i < ps.length) : DsqOk (ps[c]'hc).1 (ps[c]'hc).2 (ps[i]'hi).1 (ps[i]'hi).2 ∧ IsV (dsqF (ps[c]'hc).1 (ps[c]'hc).2 (ps[i]'hi).1 (ps[i]'hi).2) (dI X Y c i) ∧ 0 ≤ dI X Y c i ∧ dI X Y c i ≤ 100000000 := by
  obtain ⟨i1, i2⟩ := h.v c hc
  obtain ⟨i3, i4⟩ := h.v i hi
  obtain ⟨b1, b2⟩ := h.b c hc
  obtain ⟨b3, b4⟩ := h.b i hi
  obtain ⟨o, v⟩ := dsq_int i1 i2 i3 i4 (by omega) (by omega) (by omega) (by omega)
  refine ⟨o, v, Int.add_nonneg (sq_nn _) (sq_nn _), ?_⟩
  have q1 : ((X c - X i) * (X c - X i)).natAbs ≤ 4000 * 4000 := by rw [Int.natAbs_mul]; exact Nat.mul_le_mul (by omega) (by omega)
  have q2 : ((Y c - Y i) * (Y c - Y i)).natAbs ≤ 4000 * 4000 := by rw [Int.natAbs_mul]; exact Nat.mul_le_mul (by omega) (by omega)
  unfold dI
  omega
theorem LineI.far (h : LineI ps X Y) {t : Nat} {T : Int} (ht : IsV t T) (t0 : 0 ≤ T) (t1 : T ≤ 1000) : FarOk ps t (fun c i => decide (T * T < dI X Y c i)) := ⟨fun c i hc hi => by
  obtain ⟨o, v, d0, d1⟩ := h.dsq hc hi
  obtain ⟨so, _, _, g, _⟩ := sqrt_gt v ht d0 d1 t0 t1
  exact ⟨o, so, g⟩⟩
theorem LineI.pos (h : LineI ps X Y) {a b : Nat} (ha : a < ps.length) (hb : b < ps.length) (hab : a ≠ b) : 0 < (X b - X a) * (X b - X a) + (Y b - Y a) * (Y b - Y a) := by
  have h1 := sq_nn (X b - X a)
  have h2 := sq_nn (Y b - Y a)
  have h3 := h.ne a b ha hb hab
  by_cases z : X b - X a = 0
  · have := sq_pos (a := Y b - Y a) (fun e => h3 ⟨by omega, by omega⟩)
    omega
  · have := sq_pos z
    omega
/-- the distances from segments, as the program reckons them -/
structure SegFun (ps : List (Nat × Nat)) (X Y : Nat → Int) (D : Nat → Nat → Nat → Nat) (q : Nat → Nat → Nat → Rat) : Prop where
  ok : ∀ (a b i : Nat) (ha : a < ps.length) (hb : b < ps.length) (hi : i < ps.length), SegOk (ps[a]'ha).1 (ps[a]'ha).2 (ps[b]'hb).1 (ps[b]'hb).2 (ps[i]'hi).1 (ps[i]'hi).2 (D a b i)
  v : ∀ a b i, a < ps.length → b < ps.length → i < ps.length → IsV (D a b i) (q a b i) ∧ SegNear (X a) (Y a) (X b) (Y b) (X i) (Y i) (q a b i)
theorem LineI.seg (h : LineI ps X Y) : ∃ D q, SegFun ps X Y D q := by
  have key : ∀ a b i, ∃ p : Nat × Rat, ∀ (ha : a < ps.length) (hb : b < ps.length) (hi : i < ps.length), SegOk (ps[a]'ha).1 (ps[a]'ha).2 (ps[b]'hb).1 (ps[b]'hb).2 (ps[i]'hi).1 (ps[i]'hi).2 p.1 ∧ IsV p.1 p.2 ∧ SegNear (X a) (Y a) (X b) (Y b) (X i) (Y i) p.2 := fun a b i => by
    by_cases c : a < ps.length ∧ b < ps.length ∧ i < ps.length
    · obtain ⟨ha, hb, hi⟩ := c
      obtain ⟨i1, i2⟩ := h.v a ha
      obtain ⟨i3, i4⟩ := h.v b hb
      obtain ⟨i5, i6⟩ := h.v i hi
      obtain ⟨b1, b2⟩ := h.b a ha
      obtain ⟨b3, b4⟩ := h.b b hb
      obtain ⟨b5, b6⟩ := h.b i hi
      obtain ⟨r, σ, s, v, n⟩ := seg_near i1 i2 i3 i4 i5 i6 (by omega) (by omega) (by omega) (by omega) (by omega) (by omega)
      exact ⟨(r, σ), fun _ _ _ => ⟨s, v, n⟩⟩
    · exact ⟨(0, 0), fun ha hb hi => absurd ⟨ha, hb, hi⟩ c⟩
  exact ⟨fun a b i => (Classical.choose (key a b i)).1, fun a b i => (Classical.choose (key a b i)).2, ⟨fun a b i ha hb hi => (Classical.choose_spec (key a b i) ha hb hi).1, fun a b i ha hb hi => (Classical.choose_spec (key a b i) ha hb hi).2⟩⟩
/-- what is at most the threshold away, is near it for the law -/
theorem most_t {t : Nat} {T : Int} (ht : IsV t T) (t0 : 0 ≤ T) (t1 : T ≤ 1000) : MostOk t ∧ IsV (fop .mul t t) ((T * T : Int) : Rat) ∧ ∃ m, IsV (mostF t) m ∧ 0 ≤ m ∧ m ≤ 40000000 ∧ ((T * T : Int) : Rat) + 4 / 10000000 ≤ m := by
  have tl := tiny_lit
  have tp := tiny_pos
  have tt : 0 ≤ T * T := Int.mul_nonneg t0 t0
  have tt2 : T * T ≤ 1000 * 1000 := Int.mul_le_mul t1 t1 t0 (by omega)
  obtain ⟨o1, v1⟩ := mul_int ht ht (by omega)
  obtain ⟨v, hv, w1, w2⟩ := micro_v
  have q0 : (0 : Rat) ≤ ((T * T : Int) : Rat) := int_le (a := 0) tt
  have q1 : ((T * T : Int) : Rat) ≤ 1000000 := int_le (b := 1000000) (by omega)
  obtain ⟨m, o2, vm, w3⟩ := add_near (M := 40000000) v1 hv (by constructor <;> grind) (huge_ge (by decide))
  rw [eps_lit] at w3
  obtain ⟨z1, z2⟩ := w3
  exact ⟨⟨o1, o2⟩, v1, m, vm, by grind, by grind, by grind⟩
theorem LineI.near (h : LineI ps X Y) {D : Nat → Nat → Nat → Nat} {q : Nat → Nat → Nat → Rat} (F : SegFun ps X Y D q) {t : Nat} {T : Int} (ht : IsV t T) (t0 : 0 ≤ T) (t1 : T ≤ 1000) {a b i : Nat} (ha : a < ps.length) (hb : b < ps.length) (hi : i < ps.length) (hab : a ≠ b) (hq : q a b i ≤ ((T * T : Int) : Rat)) :
    NearOk (ps[a]'ha).1 (ps[a]'ha).2 (ps[b]'hb).1 (ps[b]'hb).2 (ps[i]'hi).1 (ps[i]'hi).2 t true := by
  obtain ⟨i1, i2⟩ := h.v a ha
  obtain ⟨i3, i4⟩ := h.v b hb
  obtain ⟨i5, i6⟩ := h.v i hi
  obtain ⟨b1, b2⟩ := h.b a ha
  obtain ⟨b3, b4⟩ := h.b b hb
  obtain ⟨b5, b6⟩ := h.b i hi
  have hD := h.pos ha hb hab
  obtain ⟨mo, _, m, vm, m0, m1, m2⟩ := most_t ht t0 t1
  obtain ⟨A, hX, X0, X8, ⟨A1, A2⟩, _, s0, _⟩ := seg_far (F.v a b i ha hb hi).2 hD (by omega) (by omega) (by omega) (by omega) (by omega) (by omega)
  exact (near_int i1 i2 i3 i4 i5 i6 (by omega) (by omega) (by omega) (by omega) (by omega) (by omega) hD mo vm m0 m1 hX).1 (by grind)
end Go.Proofs.Ytglopopdmkgooaa
