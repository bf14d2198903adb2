/-
  Plain facts on binary floats: rounding, exact results of whole numbers, near results of quotients and roots. No program in sight.
-/
import Ieee.Arith
import Derived.Laws.FloatBits
import Derived.Laws.FloatArith
import Derived.Laws.BitsAllLaws
set_option linter.all false
namespace PubFl
open Ieee

/-- within so much -/
def Within (r v e : Rat) : Prop := v - e ≤ r ∧ r ≤ v + e

theorem Within.mono {r v e e' : Rat} (h : Within r v e) (he : e ≤ e') : Within r v e' := by
  unfold Within at *; constructor <;> grind

/-! ### The operations -/

/-! ### Roots -/

open Go

/-! ### The program's operations on floats, as functions of bits -/

/-- is the operation one whose result the language fixes? -/
def FOk (op : BinOp) (x y : Nat) : Prop := (floatBits op .f64 x y).isSome = true
def fop (op : BinOp) (x y : Nat) : Nat := (floatBits op .f64 x y).getD 0

theorem run_fop {P : Program} {op : BinOp} {t : TypeId} {x y : Nat} (w : World) (h : FOk op x y) :
    (binOp op t (.float .f64 x) (.float .f64 y)).run P w = .ok (.float .f64 (fop op x y)) w := by
  obtain ⟨r, hr⟩ := Option.isSome_iff_exists.1 h
  have : fop op x y = r := by unfold fop; rw [hr]; rfl
  rw [this]
  exact run_float_arith w op t .f64 x y r hr

/-- the word of a whole number -/
def fl (n : Int) : Nat := floatOfInt .f64 n

section
variable {x y : Nat} {p q : Rat}

/-! whole numbers -/
variable {a b : Int}
end

/-! ### Comparisons -/
def ltF (x y : Nat) : Bool := FloatKind.f64.format.order x y == some .lt
def eqF (x y : Nat) : Bool := FloatKind.f64.format.order x y == some .eq
def gtF (x y : Nat) : Bool := FloatKind.f64.format.order x y == some .gt
def leF (x y : Nat) : Bool := ltF x y || eqF x y
def geF (x y : Nat) : Bool := gtF x y || eqF x y
def neF (x y : Nat) : Bool := !eqF x y
theorem cmp_eql (t : TypeId) (a b : Nat) : binOp .eql t (.float .f64 a) (.float .f64 b) = pure (.bool (eqF a b)) := binOp_float_cmp_eql t .f64 a b
theorem cmp_neq (t : TypeId) (a b : Nat) : binOp .neq t (.float .f64 a) (.float .f64 b) = pure (.bool (neF a b)) := binOp_float_cmp_neq t .f64 a b
theorem cmp_lss (t : TypeId) (a b : Nat) : binOp .lss t (.float .f64 a) (.float .f64 b) = pure (.bool (ltF a b)) := binOp_float_cmp_lss t .f64 a b
theorem cmp_leq (t : TypeId) (a b : Nat) : binOp .leq t (.float .f64 a) (.float .f64 b) = pure (.bool (leF a b)) := binOp_float_cmp_leq t .f64 a b
theorem cmp_gtr (t : TypeId) (a b : Nat) : binOp .gtr t (.float .f64 a) (.float .f64 b) = pure (.bool (gtF a b)) := binOp_float_cmp_gtr t .f64 a b
theorem cmp_geq (t : TypeId) (a b : Nat) : binOp .geq t (.float .f64 a) (.float .f64 b) = pure (.bool (geF a b)) := binOp_float_cmp_geq t .f64 a b
/-! ### Magnitude, sign, cutting -/
/-! ### The lesser and the greater -/
/-! ### Roots, as the program takes them -/
end PubFl
