/-
  Plain arithmetic: twice the area of a ring, with and without an offset, and the other way round.
-/
namespace PubFl

/-- the sum of the first n -/
def sumTo (t : Nat → Int) : Nat → Int
  | 0 => 0
  | n + 1 => sumTo t n + t n
theorem sumTo_congr {t s : Nat → Int} : ∀ {n : Nat}, (∀ i, i < n → t i = s i) → sumTo t n = sumTo s n
  | 0, _ => rfl
  | n + 1, h => by
    unfold sumTo
    rw [sumTo_congr (n := n) fun i hi => h i (by omega), h n (by omega)]
theorem sumTo_front (t : Nat → Int) : ∀ n, sumTo t (n + 1) = t 0 + sumTo (fun i => t (i + 1)) n
  | 0 => by simp [sumTo]
  | n + 1 => by
    have := sumTo_front t n
    unfold sumTo
    rw [this]
    show _ = t 0 + (sumTo (fun i => t (i + 1)) n + t (n + 1))
    omega
theorem sumTo_rev (t : Nat → Int) : ∀ n, sumTo (fun i => t (n - 1 - i)) n = sumTo t n
  | 0 => rfl
  | n + 1 => by
    rw [sumTo_front]
    have h : sumTo (fun i => t (n + 1 - 1 - (i + 1))) n = sumTo (fun i => t (n - 1 - i)) n := sumTo_congr fun i hi => by
      show t (n + 1 - 1 - (i + 1)) = t (n - 1 - i)
      congr 1; omega
    rw [h, sumTo_rev t n]
    show t (n + 1 - 1 - 0) + sumTo t n = sumTo t n + t n
    rw [show n + 1 - 1 - 0 = n by omega]; omega
theorem sumTo_neg (t : Nat → Int) : ∀ n, sumTo (fun i => - t i) n = - sumTo t n
  | 0 => rfl
  | n + 1 => by
    unfold sumTo; rw [sumTo_neg t n]; omega
theorem sumTo_abs {t : Nat → Int} {m : Int} : ∀ {n : Nat}, (∀ i, i < n → -m ≤ t i ∧ t i ≤ m) → -(n * m) ≤ sumTo t n ∧ sumTo t n ≤ n * m
  | 0, _ => by simp [sumTo]
  | n + 1, h => by
    have h1 := sumTo_abs (n := n) fun i hi => h i (by omega)
    have h2 := h n (by omega)
    have e : ((n + 1 : Nat) : Int) * m = n * m + m := by rw [Int.natCast_add, Int.add_mul]; simp
    rw [e]
    unfold sumTo
    omega

/-- one step of the sum -/
def crossT (x y : Nat → Int) (i : Nat) : Int := x i * y (i + 1) - x (i + 1) * y i
def offT (x y : Nat → Int) (i : Nat) : Int := (x (i + 1) - x 0) * (y (i + 2) - y 0) - (x (i + 2) - x 0) * (y (i + 1) - y 0)

theorem off_step (x y : Nat → Int) : ∀ n, sumTo (offT x y) n = sumTo (crossT x y) (n + 1) - crossT x y 0 - x 0 * (y (n + 1) - y 1) + y 0 * (x (n + 1) - x 1)
  | 0 => by simp [sumTo]
  | n + 1 => by
    have h := off_step x y n
    have e1 : sumTo (offT x y) (n + 1) = sumTo (offT x y) n + offT x y n := rfl
    have e2 : sumTo (crossT x y) (n + 1 + 1) = sumTo (crossT x y) (n + 1) + crossT x y (n + 1) := rfl
    rw [e1, e2, h]
    unfold offT crossT
    simp only [Int.sub_mul, Int.mul_sub, Int.mul_comm (y 0), show n + 1 + 1 = n + 2 from rfl]
    omega
/-- a closed ring: the offset makes no odds -/
theorem off_closed (x y : Nat → Int) (n : Nat) (hx : x (n + 1) = x 0) (hy : y (n + 1) = y 0) : sumTo (offT x y) n = sumTo (crossT x y) (n + 1) := by
  rw [off_step, hx, hy]
  unfold crossT
  simp only [Int.mul_sub, Int.sub_mul, Int.mul_comm (y 0), Nat.zero_add]
  omega
/-- the other way round -/
theorem cross_rev (x y : Nat → Int) (m : Nat) : sumTo (crossT (fun i => x (m - i)) (fun i => y (m - i))) m = - sumTo (crossT x y) m := by
  rw [← sumTo_rev, ← sumTo_neg]
  refine sumTo_congr fun i hi => ?_
  unfold crossT
  simp only [show m - (m - 1 - i) = i + 1 by omega, show m - (m - 1 - i + 1) = i by omega]
  have := Int.mul_comm (y i) (x (i + 1))
  have := Int.mul_comm (y (i + 1)) (x i)
  omega
end PubFl
