/-
  What spec.Near compares, and the distance that the program tells: plain facts.
-/
import Derived.Test.YtglopopdmkgooaaSegAx
import Derived.Test.YtglopopdmkgooaaCross
namespace Go.Proofs.Ytglopopdmkgooaa
open PubFl

/-- 0.000001 and 0.001 as the program has them -/
theorem micro_v : ∃ v : Rat, IsV 4517329193108106637 v ∧ 99999999999999 / 100000000000000000000 ≤ v ∧ v ≤ 1 / 1000000 := by
  refine ⟨rat false (4517329193108106637 % 2 ^ 52 + 2 ^ 52) (4517329193108106637 / 2 ^ 52 - 1075), ⟨by decide, false, _, _, ?_, rfl⟩, ?_, ?_⟩
  · decide +kernel
  · decide +kernel
  · decide +kernel
theorem milli_v : ∃ v : Rat, IsV 4562254508917369340 v ∧ 1 / 1000 ≤ v ∧ v ≤ 10000000000001 / 10000000000000000 := by
  refine ⟨rat false (4562254508917369340 % 2 ^ 52 + 2 ^ 52) (4562254508917369340 / 2 ^ 52 - 1075), ⟨by decide, false, _, _, ?_, rfl⟩, ?_, ?_⟩
  · decide +kernel
  · decide +kernel
  · decide +kernel

/-- what is compared with, for a distance and a bit -/
structure MostOk (far : Nat) : Prop where
  o1 : FOk .mul far far
  o2 : FOk .add (fop .mul far far) 4517329193108106637
def mostF (far : Nat) : Nat := fop .add (fop .mul far far) 4517329193108106637

theorem far_yes {far : Nat} {r X : Rat} (hf : IsV far r) (h0 : 0 ≤ r) (hb : r ≤ 6000) (h1 : X ≤ r * r + 4 / 10000000) :
    FOk .add far 4517329193108106637 ∧ MostOk (fop .add far 4517329193108106637) ∧ ∃ m, IsV (mostF (fop .add far 4517329193108106637)) m ∧ 0 ≤ m ∧ m ≤ 40000000 ∧ X + 2 / 10000000 ≤ m := by
  have tl := tiny_lit
  have tp := tiny_pos
  obtain ⟨v, hv, v1, v2⟩ := micro_v
  obtain ⟨a, o1, va, w1⟩ := add_near (M := 8192) hf hv (by constructor <;> grind) (huge_ge (by decide))
  rw [eps_lit] at w1
  obtain ⟨x1, x2⟩ := w1
  have ha : r ≤ a := by grind
  have ha2 : a ≤ 6001 := by grind
  have haa : r * r ≤ a * a := Rat.le_trans (Rat.mul_le_mul_of_nonneg_left ha h0) (Rat.mul_le_mul_of_nonneg_right ha (by grind))
  have haa2 := (mag_mul (show Mag a 6001 by constructor <;> grind) (show Mag a 6001 by constructor <;> grind)).2
  have haa3 := rsq_nn a
  obtain ⟨b, o2, vb, w2⟩ := mul_near (M := a * a) va va (by constructor <;> grind) (huge_ge (by grind))
  rw [eps_lit] at w2
  obtain ⟨y1, y2⟩ := w2
  obtain ⟨m, o3, vm, w3⟩ := add_near (M := 40000000) vb hv (by constructor <;> grind) (huge_ge (by decide))
  rw [eps_lit] at w3
  obtain ⟨z1, z2⟩ := w3
  exact ⟨o1, ⟨o2, o3⟩, m, vm, by grind, by grind, by grind⟩

theorem far_no {far : Nat} {r X : Rat} (hf : IsV far r) (hb : r ≤ 6000) (hg : geF far 4562254508917369340 = true)
    (h1 : X ≤ r * r + (101 / 10000000000 * X + 11 / 1000000000000000)) (h2 : r * r ≤ X + (101 / 10000000000 * X + 11 / 1000000000000000)) (hX : 1 / 1000000 + 24 / 100000000000000 ≤ X) :
    FOk .sub far 4562254508917369340 ∧ MostOk (fop .sub far 4562254508917369340) ∧ ∃ m, IsV (mostF (fop .sub far 4562254508917369340)) m ∧ 0 ≤ m ∧ m ≤ 40000000 ∧ m + (m * (1 / 9007199254740992) + 2 * tiny) < X := by
  have tl := tiny_lit
  have tp := tiny_pos
  obtain ⟨v, hv, v1, v2⟩ := micro_v
  obtain ⟨c, hc, c1, c2⟩ := milli_v
  rw [geF_isV hf hc] at hg
  have hg := of_decide_eq_true hg
  obtain ⟨d, hd⟩ : ∃ d, d = r - c := ⟨_, rfl⟩
  have hd0 : 0 ≤ d := by grind
  have hd1 : d ≤ 6000 := by grind
  have hdd : d * d ≤ 6000 * d := Rat.mul_le_mul_of_nonneg_right hd1 hd0
  have hdn := rsq_nn d
  have hcc1 : 1 / 1000000 ≤ c * c := by
    have := Rat.mul_le_mul_of_nonneg_left c1 (show 0 ≤ c by grind)
    grind
  have hcc2 : c * c ≤ 10000000000001 / 10000000000000000 * (10000000000001 / 10000000000000000) :=
    Rat.le_trans (Rat.mul_le_mul_of_nonneg_left c2 (by grind)) (Rat.mul_le_mul_of_nonneg_right c2 (by grind))
  have hcd1 : 1 / 1000 * d ≤ c * d := Rat.mul_le_mul_of_nonneg_right c1 hd0
  have hcd2 : c * d ≤ 10000000000001 / 10000000000000000 * d := Rat.mul_le_mul_of_nonneg_right c2 hd0
  have hrr : r * r = c * c + 2 * (c * d) + d * d := by rw [hd]; grind
  have hdlow : 5 / 100000000000 ≤ d := by
    rcases Std.lt_trichotomy d (5 / 100000000000) with g | g | g
    · have := Rat.mul_le_mul_of_nonneg_right (show d ≤ 5 / 100000000000 by grind) hd0
      grind
    · grind
    · grind
  obtain ⟨a, o1, va, w1⟩ := sub_near (M := d) hf hc (by rw [← hd]; constructor <;> grind) (huge_ge (by grind))
  rw [eps_lit, ← hd] at w1
  obtain ⟨x1, x2⟩ := w1
  have ha0 : 0 ≤ a := by grind
  have haa1 : a * a ≤ (d + d * (1 / 9007199254740992) + tiny) * (d + d * (1 / 9007199254740992) + tiny) :=
    Rat.le_trans (Rat.mul_le_mul_of_nonneg_left (show a ≤ d + d * (1 / 9007199254740992) + tiny by grind) ha0) (Rat.mul_le_mul_of_nonneg_right (show a ≤ d + d * (1 / 9007199254740992) + tiny by grind) (by grind))
  have haa3 := rsq_nn a
  have htd : tiny * d ≤ 6000 * tiny := by
    have := Rat.mul_le_mul_of_nonneg_left hd1 (Rat.le_of_lt tp)
    grind
  have htt : tiny * tiny ≤ tiny := by
    have := Rat.mul_le_mul_of_nonneg_left (show tiny ≤ 1 by grind) (Rat.le_of_lt tp)
    grind
  have haa2 : a * a ≤ d * d + 3 * (d * d * (1 / 9007199254740992)) + 20000 * tiny := by grind
  clear haa1
  obtain ⟨b, o2, vb, w2⟩ := mul_near (M := a * a) va va (by constructor <;> grind) (huge_ge (by grind))
  rw [eps_lit] at w2
  obtain ⟨y1, y2⟩ := w2
  obtain ⟨m, o3, vm, w3⟩ := add_near (M := d * d + 1) vb hv (by constructor <;> grind) (huge_ge (by grind))
  rw [eps_lit] at w3
  obtain ⟨z1, z2⟩ := w3
  exact ⟨o1, ⟨o2, o3⟩, m, vm, by grind, by grind, by grind⟩
end Go.Proofs.Ytglopopdmkgooaa
