/-
  The middle of a box by its moments: the half of each side, exactly.
-/
import Derived.Test.YtcljppkejabibaaDoorCen
namespace Go.Proofs.YtcljppkejabibaaDoor
open PubFl Go.RowKit

theorem two_v : IsV 4611686018427387904 ((2 : Int) : Rat) := by
  rw [show (4611686018427387904 : Nat) = fl 2 by kernel_rfl]; exact fl_isV (by decide)
theorem six_v : IsV 4618441417868443648 ((6 : Int) : Rat) := by
  rw [show (4618441417868443648 : Nat) = fl 6 by kernel_rfl]; exact fl_isV (by decide)
theorem half_eq : (2 : Rat) ^ (-((1 : Nat) : Int)) = 1 / 2 := by decide +kernel

theorem axis_mid {W H x0 : Int} {s m o : Nat} (hW : 0 < W ∧ W ≤ 2000) (hH : 0 < H ∧ H ≤ 2000) (hx : -1000 ≤ x0 ∧ x0 ≤ 1000) (hs : IsV s ((2 * (W * H) : Int) : Rat)) (hm : IsV m ((3 * W * (W * H) : Int) : Rat)) (ho : IsV o ((x0 : Int) : Rat)) :
    IsV (fop .add (fop .quo m (fop .mul 4618441417868443648 (fop .quo s 4611686018427387904))) o) (((2 * x0 + W : Int) : Rat) * (2 : Rat) ^ (-((1 : Nat) : Int))) := by
  have hA : 0 < W * H := Int.mul_pos hW.1 hH.1
  have hA2 : W * H ≤ 4000000 := (mul_le_sq (m := 2000) (by omega) (by omega)).2
  generalize hK : W * H = K at *
  obtain ⟨_, v1⟩ := quo_few (v := (K : Rat)) hs two_v (by decide) (by
    rw [Rat.intCast_mul, Rat.mul_comm]) (few_int (by omega))
  obtain ⟨_, v2⟩ := mul_int six_v v1 (by omega)
  have hne : ((6 * K : Int) : Rat) ≠ 0 := by
    intro h
    have : ((6 * K : Int) : Rat) = ((0 : Int) : Rat) := h
    have := Rat.intCast_inj.mp this
    omega
  obtain ⟨_, v3⟩ := quo_few (v := (W : Rat) * (2 : Rat) ^ (-((1 : Nat) : Int))) hm v2 hne (by
    rw [half_eq]
    simp only [Rat.intCast_mul]
    have h6 : ((6 : Int) : Rat) = 6 := rfl
    have h3 : ((3 : Int) : Rat) = 3 := rfl
    rw [h6, h3]; grind) (few_part 1 (by decide) (by omega))
  have e : (W : Rat) * (2 : Rat) ^ (-((1 : Nat) : Int)) + (x0 : Rat) = ((2 * x0 + W : Int) : Rat) * (2 : Rat) ^ (-((1 : Nat) : Int)) := by
    rw [half_eq, Rat.intCast_add, Rat.intCast_mul]
    have h2 : ((2 : Int) : Rat) = 2 := rfl
    rw [h2]; grind
  obtain ⟨_, v4⟩ := add_few v3 ho (by rw [e]; exact few_part 1 (by decide) (by omega))
  rw [e] at v4
  exact v4
end Go.Proofs.YtcljppkejabibaaDoor
