/-
  What the functions of package math that are called here compute, and spec.IsWhole, spec.IsPoint.
-/
import Derived.Test.YtnmokjgiilfdlaaGreatDoorChecked
import Derived.Test.YtnmokjgiilfdlaaGreatDoorFl
import Derived.Test.YtnmokjgiilfdlaaGreatDoorWk
import Derived.Tactics
import Derived.Tactics2
import Derived.StillTactics
import Derived.WalkKit
import Derived.WalkSpells
import Derived.WalkLawsBesides
import Derived.Laws.Externs
import Derived.Outline
import Derived.BigQuiet
import Derived.KernelRfl
set_option linter.all false
namespace Go.Proofs.YtnmokjgiilfdlaaGreatDoor
open PubFl

attribute [local go_sem] cell_ext frozen_ext ext_setCell cell_store size_ext_eq lt_p0 lt_p1 lt_p2 lt_p3 lt_p4 lt_p5 lt_p6 lt_p7 lt_p8 lt_p9 lt_p10 lt_p11 lt_p12 lt_p13 lt_p14 lt_p15 lt_p16 lt_p17 lt_p18 lt_p19 lt_p20 lt_p21 lt_p22 lt_p23 lt_p24 lt_p25 lt_p26 lt_p27 lt_p28 lt_p29 lt_p30 lt_p31 lt_p32 lt_q1 lt_q2 lt_q3 lt_q4 lt_q5 lt_q6 lt_q7 lt_q8 lt_q9 lt_q10 lt_q11 lt_q12 lt_q13 lt_q14 lt_q15 lt_q16 lt_q17 lt_q18 lt_q19 lt_q20 lt_q21 lt_q22 lt_q23 lt_q24 lt_q25 lt_q26 lt_q27 lt_q28 lt_q29 lt_q30 lt_q31 lt_q32 run_fop run_store_float
attribute [local go_sem high] cmp_eql cmp_neq cmp_lss cmp_leq cmp_gtr cmp_geq

theorem wrap64_i64 (n : Int) : RowKit.wrap64 n = IntKind.i64.wrap n := by
  unfold RowKit.wrap64 IntKind.wrap
  have e : ((2 : Int) ^ IntKind.i64.bits) = 18446744073709551616 := rfl
  have e2 : ((2 : Int) ^ (IntKind.i64.bits - 1)) = 9223372036854775808 := rfl
  have e3 : IntKind.i64.signed = true := rfl
  rw [e, e2, e3]
  simp only [Bool.true_and, decide_eq_true_eq]
  split <;> omega
theorem x_bits (x : Nat) (w : World) : (callFunc 81 #[.float .f64 x]).run Tryz.prog w = .ok (.value (.int .u64 x)) w := by
  rw [run_callFunc_extern Tryz.func81 (by kernel_rfl) (by kernel_rfl) (by kernel_rfl) (e := Extern.MathFloatBits.float64bits) (by kernel_rfl)]
  rfl
theorem x_frombits (x : Int) (w : World) : (callFunc 102 #[.int .u64 x]).run Tryz.prog w = .ok (.value (.float .f64 x.toNat)) w := by
  rw [run_callFunc_extern Tryz.func102 (by kernel_rfl) (by kernel_rfl) (by kernel_rfl) (e := Extern.MathFloatBits.float64frombits) (by kernel_rfl)]
  rfl

/-- the three shapes of IsWhole's test -/
theorem whole_no1 {x : Nat} {s : Bool} {m : Nat} {e : Int} (h : FloatKind.f64.decode x = .number s m e) (h1 : eqF x (truncF x) = false) : wholeB x = false := by
  unfold wholeB; rw [h]; simp [h1]
theorem whole_no2 {x : Nat} (h2 : leF (absF x) 4652007308841189376 = false) : wholeB x = false := by
  unfold wholeB; split <;> simp [h2]
theorem whole_no3 {x : Nat} (h3 : neF x 0 = false) (h4 : signF x = true) : wholeB x = false := by
  unfold wholeB; split <;> simp [h3, h4]
theorem whole_yes {x : Nat} {s : Bool} {m : Nat} {e : Int} (h : FloatKind.f64.decode x = .number s m e) (h1 : eqF x (truncF x) = true) (h2 : leF (absF x) 4652007308841189376 = true) (h3 : neF x 0 = true ∨ signF x = false) : wholeB x = true := by
  unfold wholeB; rw [h]; rcases h3 with h3 | h3 <;> simp [h1, h2, h3]
theorem decode_inf {x : Nat} {s : Bool} (h : FloatKind.f64.decode x = .infinity s) : wholeB x = false := by unfold wholeB; rw [h]
theorem decode_nan {x : Nat} {s : Bool} {t : Nat} (h : FloatKind.f64.decode x = .nan s t) : wholeB x = false := by unfold wholeB; rw [h]
theorem nan_eq {x r : Nat} {s : Bool} {t : Nat} (h : FloatKind.f64.decode x = .nan s t) : eqF x r = false := by
  have h' : Ieee.double.read x = .nan s t := h
  unfold eqF
  have : FloatKind.f64.format.order x r = none := by
    show (Ieee.double.read x).order (Ieee.double.read r) = none
    rw [h']; cases Ieee.double.read r <;> rfl
  rw [this]; rfl
theorem inf_abs {x : Nat} {s : Bool} (h64 : x < 2 ^ 64) (h : FloatKind.f64.decode x = .infinity s) : leF (absF x) 4652007308841189376 = false := by
  have h' : Ieee.double.read x = .infinity s := h
  have e : x % 2 ^ 63 = 2047 * 2 ^ 52 := by
    have hs : Ieee.double.signWeight = 2 ^ 63 := rfl
    have hb : Ieee.double.binade = 2 ^ 52 := rfl
    have hi : Ieee.double.infRung = 2047 * 2 ^ 52 := rfl
    unfold Ieee.Format.read at h'
    simp only [hs, hb, hi] at h'
    split at h'
    · cases h'
    · split at h'
      · cases h'
      · split at h'
        · assumption
        · cases h'
  rw [absF_eq h64, e]
  decide +kernel
end Go.Proofs.YtnmokjgiilfdlaaGreatDoor
