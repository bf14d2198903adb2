/-
  What the functions of package math that are called here compute, and spec.IsWhole, spec.IsPoint.
-/
import Derived.Test.YtohidpmkoehmcaaGreatDoorChecked
import Derived.Test.YtohidpmkoehmcaaGreatDoorFl
import Derived.Test.YtohidpmkoehmcaaGreatDoorWk
import Derived.Tactics
import Derived.Tactics2
import Derived.StillTactics
import Derived.WalkKit
import Derived.WalkSpells
import Derived.WalkLawsBesides
import Derived.Laws.Externs
import Derived.Outline
import Derived.BigQuiet
import Derived.KernelRfl
set_option linter.all false
namespace Go.Proofs.YtohidpmkoehmcaaGreatDoor
open PubFl

attribute [local go_sem] cell_ext frozen_ext ext_setCell cell_store size_ext_eq lt_p0 lt_p1 lt_p2 lt_p3 lt_p4 lt_p5 lt_p6 lt_p7 lt_p8 lt_p9 lt_p10 lt_p11 lt_p12 lt_p13 lt_p14 lt_p15 lt_p16 lt_p17 lt_p18 lt_p19 lt_p20 lt_p21 lt_p22 lt_p23 lt_p24 lt_p25 lt_p26 lt_p27 lt_p28 lt_p29 lt_p30 lt_p31 lt_p32 lt_q1 lt_q2 lt_q3 lt_q4 lt_q5 lt_q6 lt_q7 lt_q8 lt_q9 lt_q10 lt_q11 lt_q12 lt_q13 lt_q14 lt_q15 lt_q16 lt_q17 lt_q18 lt_q19 lt_q20 lt_q21 lt_q22 lt_q23 lt_q24 lt_q25 lt_q26 lt_q27 lt_q28 lt_q29 lt_q30 lt_q31 lt_q32 run_fop run_store_float
attribute [local go_sem high] cmp_eql cmp_neq cmp_lss cmp_leq cmp_gtr cmp_geq

theorem wrap64_i64 (n : Int) : RowKit.wrap64 n = IntKind.i64.wrap n := by
  unfold RowKit.wrap64 IntKind.wrap
  have e : ((2 : Int) ^ IntKind.i64.bits) = 18446744073709551616 := rfl
  have e2 : ((2 : Int) ^ (IntKind.i64.bits - 1)) = 9223372036854775808 := rfl
  have e3 : IntKind.i64.signed = true := rfl
  rw [e, e2, e3]
  simp only [Bool.true_and, decide_eq_true_eq]
  split <;> omega
theorem x_bits (x : Nat) (w : World) : (callFunc 25 #[.float .f64 x]).run Tryz.prog w = .ok (.value (.int .u64 x)) w := by
  rw [run_callFunc_extern Tryz.func25 (by kernel_rfl) (by kernel_rfl) (by kernel_rfl) (e := Extern.MathFloatBits.float64bits) (by kernel_rfl)]
  rfl
theorem x_frombits (x : Int) (w : World) : (callFunc 24 #[.int .u64 x]).run Tryz.prog w = .ok (.value (.float .f64 x.toNat)) w := by
  rw [run_callFunc_extern Tryz.func24 (by kernel_rfl) (by kernel_rfl) (by kernel_rfl) (e := Extern.MathFloatBits.float64frombits) (by kernel_rfl)]
  rfl
theorem x_sqrt {x : Nat} (h : SOk x) (w : World) : (callFunc 70 #[.float .f64 x]).run Tryz.prog w = .ok (.value (.float .f64 (sqrtF x))) w := by
  rw [run_callFunc_extern Tryz.func70 (by kernel_rfl) (by kernel_rfl) (by kernel_rfl) (e := Extern.MathSqrt.sqrt) (by kernel_rfl)]
  obtain ⟨r, hr⟩ := Option.isSome_iff_exists.1 h
  have e : sqrtF x = r := by unfold sqrtF; rw [hr]; rfl
  rw [e]
  change (Sem.run _ (match FloatKind.f64.format.sqrt x with | some r => pure (Value.float .f64 r) | none => do pure (Value.float .f64 (← choose (.nanBits .f64 x x)))) w).andThen _ = _
  rw [hr]
  rfl
theorem x_min (x y : Nat) (w : World) : (callFunc 47 #[.float .f64 x, .float .f64 y]).run Tryz.prog w = .ok (.value (.float .f64 (minF x y))) w := by
  rw [run_callFunc_extern Tryz.func47 (by kernel_rfl) (by kernel_rfl) (by kernel_rfl) (e := Extern.MathDim.pick "math.archMin" true .lt) (by kernel_rfl)]
  rfl
theorem x_max (x y : Nat) (w : World) : (callFunc 49 #[.float .f64 x, .float .f64 y]).run Tryz.prog w = .ok (.value (.float .f64 (maxF x y))) w := by
  rw [run_callFunc_extern Tryz.func49 (by kernel_rfl) (by kernel_rfl) (by kernel_rfl) (e := Extern.MathDim.pick "math.archMax" false .gt) (by kernel_rfl)]
  rfl

theorem abs_c (x : Nat) (w : World) : Calls Tryz.prog 12 #[.float .f64 x] w (Ret w (.float .f64 (absF x))) := by
  have h1 := x_bits
  have h2 := x_frombits
  go_enter Tryz.func12, Tryz.ntmps12
  go_wp2
  go_ret
  exact Ret.mk rfl (Kp.refl _)
theorem signbit_c (x : Nat) (w : World) : Calls Tryz.prog 60 #[.float .f64 x] w (Ret w (.bool (signF x))) := by
  have h1 := x_bits
  go_enter Tryz.func60, Tryz.ntmps60
  go_wp2
  go_ret
  exact Ret.mk (by simp only [signF, wrap64_i64]; rfl) (Kp.refl _)

/-- cutting: of a number it draws nothing -/
theorem x_trunc {x : Nat} {s : Bool} {m : Nat} {e : Int} (h : FloatKind.f64.decode x = .number s m e) (w : World) : (callFunc 68 #[.float .f64 x]).run Tryz.prog w = .ok (.value (.float .f64 (truncF x))) w := by
  rw [run_callFunc_extern Tryz.func68 (by kernel_rfl) (by kernel_rfl) (by kernel_rfl) (e := Extern.MathFloor.toIntegral "math.archTrunc" .zero) (by kernel_rfl)]
  unfold truncF
  change (Sem.run _ (match FloatKind.f64.decode x with
    | .nan s t =>
      if FloatKind.f64.format.quiet t = t then pure (Value.float .f64 x) else do
      let kept ← choose (.extern "math.Floor,Ceil,Trunc,RoundToEven.signallingNaN kept" 2)
      pure (Value.float .f64 (if kept == 1 then x else FloatKind.f64.encode (.nan s (FloatKind.f64.format.quiet t))))
    | d => pure (Value.float .f64 (FloatKind.f64.encode (d.integral .zero)))) w).andThen _ = _
  rw [h]
  rfl

theorem x_trunc_inf {x : Nat} {s : Bool} (h : FloatKind.f64.decode x = .infinity s) (w : World) : (callFunc 68 #[.float .f64 x]).run Tryz.prog w = .ok (.value (.float .f64 (truncF x))) w := by
  rw [run_callFunc_extern Tryz.func68 (by kernel_rfl) (by kernel_rfl) (by kernel_rfl) (e := Extern.MathFloor.toIntegral "math.archTrunc" .zero) (by kernel_rfl)]
  unfold truncF
  change (Sem.run _ (match FloatKind.f64.decode x with
    | .nan s t =>
      if FloatKind.f64.format.quiet t = t then pure (Value.float .f64 x) else do
      let kept ← choose (.extern "math.Floor,Ceil,Trunc,RoundToEven.signallingNaN kept" 2)
      pure (Value.float .f64 (if kept == 1 then x else FloatKind.f64.encode (.nan s (FloatKind.f64.format.quiet t))))
    | d => pure (Value.float .f64 (FloatKind.f64.encode (d.integral .zero)))) w).andThen _ = _
  rw [h]
  rfl
theorem x_trunc_nan {x : Nat} {s : Bool} {t : Nat} (h : FloatKind.f64.decode x = .nan s t) (w : World) : ∃ r, (callFunc 68 #[.float .f64 x]).run Tryz.prog w = .ok (.value (.float .f64 r)) w ∨ (callFunc 68 #[.float .f64 x]).run Tryz.prog w = .ok (.value (.float .f64 r)) w.drew := by
  rw [run_callFunc_extern Tryz.func68 (by kernel_rfl) (by kernel_rfl) (by kernel_rfl) (e := Extern.MathFloor.toIntegral "math.archTrunc" .zero) (by kernel_rfl)]
  change ∃ r, (Sem.run _ (match FloatKind.f64.decode x with
    | .nan s t =>
      if FloatKind.f64.format.quiet t = t then pure (Value.float .f64 x) else do
      let kept ← choose (.extern "math.Floor,Ceil,Trunc,RoundToEven.signallingNaN kept" 2)
      pure (Value.float .f64 (if kept == 1 then x else FloatKind.f64.encode (.nan s (FloatKind.f64.format.quiet t))))
    | d => pure (Value.float .f64 (FloatKind.f64.encode (d.integral .zero)))) w).andThen _ = _ ∨ (Sem.run _ (match FloatKind.f64.decode x with
    | .nan s t =>
      if FloatKind.f64.format.quiet t = t then pure (Value.float .f64 x) else do
      let kept ← choose (.extern "math.Floor,Ceil,Trunc,RoundToEven.signallingNaN kept" 2)
      pure (Value.float .f64 (if kept == 1 then x else FloatKind.f64.encode (.nan s (FloatKind.f64.format.quiet t))))
    | d => pure (Value.float .f64 (FloatKind.f64.encode (d.integral .zero)))) w).andThen _ = _
  rw [h]
  dsimp only
  split
  · exact ⟨_, .inl rfl⟩
  · exact ⟨_, .inr rfl⟩

/-- the three shapes of IsWhole's test -/
theorem whole_no1 {x : Nat} {s : Bool} {m : Nat} {e : Int} (h : FloatKind.f64.decode x = .number s m e) (h1 : eqF x (truncF x) = false) : wholeB x = false := by
  unfold wholeB; rw [h]; simp [h1]
theorem whole_no2 {x : Nat} (h2 : leF (absF x) 4652007308841189376 = false) : wholeB x = false := by
  unfold wholeB; split <;> simp [h2]
theorem whole_no3 {x : Nat} (h3 : neF x 0 = false) (h4 : signF x = true) : wholeB x = false := by
  unfold wholeB; split <;> simp [h3, h4]
theorem whole_yes {x : Nat} {s : Bool} {m : Nat} {e : Int} (h : FloatKind.f64.decode x = .number s m e) (h1 : eqF x (truncF x) = true) (h2 : leF (absF x) 4652007308841189376 = true) (h3 : neF x 0 = true ∨ signF x = false) : wholeB x = true := by
  unfold wholeB; rw [h]; rcases h3 with h3 | h3 <;> simp [h1, h2, h3]
theorem decode_inf {x : Nat} {s : Bool} (h : FloatKind.f64.decode x = .infinity s) : wholeB x = false := by unfold wholeB; rw [h]
theorem decode_nan {x : Nat} {s : Bool} {t : Nat} (h : FloatKind.f64.decode x = .nan s t) : wholeB x = false := by unfold wholeB; rw [h]
theorem nan_eq {x r : Nat} {s : Bool} {t : Nat} (h : FloatKind.f64.decode x = .nan s t) : eqF x r = false := by
  have h' : Ieee.double.read x = .nan s t := h
  unfold eqF
  have : FloatKind.f64.format.order x r = none := by
    show (Ieee.double.read x).order (Ieee.double.read r) = none
    rw [h']; cases Ieee.double.read r <;> rfl
  rw [this]; rfl
set_option maxRecDepth 20000 in
theorem whole_number (x : Nat) (w : World) {s : Bool} {m : Nat} {e : Int} (hd : FloatKind.f64.decode x = .number s m e) : Calls Tryz.prog 56 #[.float .f64 x] w (Ret w (.bool (wholeB x))) := by
  have ht := x_trunc hd
  cases h1 : eqF x (truncF x)
  · rw [whole_no1 hd h1]
    clear hd
    go_enter Tryz.func56, Tryz.ntmps56
    go_wp2_with (first | (go_at_call 64; go_in) | (go_at_call 12; refine (abs_c _ _).mono ?_; rintro e w' ⟨rfl, u, rfl⟩) | (go_at_call 60; refine (signbit_c _ _).mono ?_; rintro e w' ⟨rfl, u, rfl⟩))
    go_ret
    exact Ret.mk rfl (by repeat (first | exact Kp.refl _ | apply Kp.ext | apply Kp.drew | apply Kp.alloc))
  · cases h2 : leF (absF x) 4652007308841189376
    · rw [whole_no2 h2]
      clear hd
      go_enter Tryz.func56, Tryz.ntmps56
      go_wp2_with (first | (go_at_call 64; go_in) | (go_at_call 12; refine (abs_c _ _).mono ?_; rintro e w' ⟨rfl, u, rfl⟩) | (go_at_call 60; refine (signbit_c _ _).mono ?_; rintro e w' ⟨rfl, u, rfl⟩))
      go_ret
      exact Ret.mk rfl (by repeat (first | exact Kp.refl _ | apply Kp.ext | apply Kp.drew | apply Kp.alloc))
    · cases h3 : neF x 0
      · cases h4 : signF x
        · rw [whole_yes hd h1 h2 (.inr h4)]
          clear hd
          go_enter Tryz.func56, Tryz.ntmps56
          go_wp2_with (first | (go_at_call 64; go_in) | (go_at_call 12; refine (abs_c _ _).mono ?_; rintro e w' ⟨rfl, u, rfl⟩) | (go_at_call 60; refine (signbit_c _ _).mono ?_; rintro e w' ⟨rfl, u, rfl⟩))
          go_ret
          exact Ret.mk rfl (by repeat (first | exact Kp.refl _ | apply Kp.ext | apply Kp.drew | apply Kp.alloc))
        · rw [whole_no3 h3 h4]
          clear hd
          go_enter Tryz.func56, Tryz.ntmps56
          go_wp2_with (first | (go_at_call 64; go_in) | (go_at_call 12; refine (abs_c _ _).mono ?_; rintro e w' ⟨rfl, u, rfl⟩) | (go_at_call 60; refine (signbit_c _ _).mono ?_; rintro e w' ⟨rfl, u, rfl⟩))
          go_ret
          exact Ret.mk rfl (by repeat (first | exact Kp.refl _ | apply Kp.ext | apply Kp.drew | apply Kp.alloc))
      · rw [whole_yes hd h1 h2 (.inl h3)]
        clear hd
        go_enter Tryz.func56, Tryz.ntmps56
        go_wp2_with (first | (go_at_call 64; go_in) | (go_at_call 12; refine (abs_c _ _).mono ?_; rintro e w' ⟨rfl, u, rfl⟩) | (go_at_call 60; refine (signbit_c _ _).mono ?_; rintro e w' ⟨rfl, u, rfl⟩))
        go_ret
        exact Ret.mk rfl (by repeat (first | exact Kp.refl _ | apply Kp.ext | apply Kp.drew | apply Kp.alloc))

theorem inf_abs {x : Nat} {s : Bool} (h64 : x < 2 ^ 64) (h : FloatKind.f64.decode x = .infinity s) : leF (absF x) 4652007308841189376 = false := by
  have h' : Ieee.double.read x = .infinity s := h
  have e : x % 2 ^ 63 = 2047 * 2 ^ 52 := by
    have hs : Ieee.double.signWeight = 2 ^ 63 := rfl
    have hb : Ieee.double.binade = 2 ^ 52 := rfl
    have hi : Ieee.double.infRung = 2047 * 2 ^ 52 := rfl
    unfold Ieee.Format.read at h'
    simp only [hs, hb, hi] at h'
    split at h'
    · cases h'
    · split at h'
      · cases h'
      · split at h'
        · assumption
        · cases h'
  rw [absF_eq h64, e]
  decide +kernel
set_option maxRecDepth 20000 in
theorem whole_inf (x : Nat) (w : World) (h64 : x < 2 ^ 64) {s : Bool} (hd : FloatKind.f64.decode x = .infinity s) : Calls Tryz.prog 56 #[.float .f64 x] w (Ret w (.bool (wholeB x))) := by
  have ht := x_trunc_inf hd
  have h2 := inf_abs h64 hd
  rw [decode_inf hd]
  clear hd h64
  cases h1 : eqF x (truncF x)
  · skip
    go_enter Tryz.func56, Tryz.ntmps56
    go_wp2_with (first | (go_at_call 64; go_in) | (go_at_call 12; refine (abs_c _ _).mono ?_; rintro e w' ⟨rfl, u, rfl⟩) | (go_at_call 60; refine (signbit_c _ _).mono ?_; rintro e w' ⟨rfl, u, rfl⟩))
    go_ret
    exact Ret.mk rfl (by repeat (first | exact Kp.refl _ | apply Kp.ext | apply Kp.drew | apply Kp.alloc))
  · skip
    go_enter Tryz.func56, Tryz.ntmps56
    go_wp2_with (first | (go_at_call 64; go_in) | (go_at_call 12; refine (abs_c _ _).mono ?_; rintro e w' ⟨rfl, u, rfl⟩) | (go_at_call 60; refine (signbit_c _ _).mono ?_; rintro e w' ⟨rfl, u, rfl⟩))
    go_ret
    exact Ret.mk rfl (by repeat (first | exact Kp.refl _ | apply Kp.ext | apply Kp.drew | apply Kp.alloc))

set_option maxRecDepth 20000 in
theorem whole_nan (x : Nat) (w : World) {s : Bool} {t : Nat} (hd : FloatKind.f64.decode x = .nan s t) : Calls Tryz.prog 56 #[.float .f64 x] w (Ret w (.bool (wholeB x))) := by
  obtain ⟨r, hr⟩ := x_trunc_nan hd w
  have h1 := nan_eq (r := r) hd
  rw [decode_nan hd]
  clear hd
  rcases hr with hr | hr
  · skip
    go_enter Tryz.func56, Tryz.ntmps56
    go_wp2_with (first | (go_at_call 64; go_in) | (go_at_call 12; refine (abs_c _ _).mono ?_; rintro e w' ⟨rfl, u, rfl⟩) | (go_at_call 60; refine (signbit_c _ _).mono ?_; rintro e w' ⟨rfl, u, rfl⟩))
    go_ret
    exact Ret.mk rfl (by repeat (first | exact Kp.refl _ | apply Kp.ext | apply Kp.drew | apply Kp.alloc))
  · skip
    go_enter Tryz.func56, Tryz.ntmps56
    go_wp2_with (first | (go_at_call 64; go_in) | (go_at_call 12; refine (abs_c _ _).mono ?_; rintro e w' ⟨rfl, u, rfl⟩) | (go_at_call 60; refine (signbit_c _ _).mono ?_; rintro e w' ⟨rfl, u, rfl⟩))
    go_ret
    exact Ret.mk rfl (by repeat (first | exact Kp.refl _ | apply Kp.ext | apply Kp.drew | apply Kp.alloc))

/-- IsWhole, whatever the bits -/
theorem whole_c (x : Nat) (h64 : x < 2 ^ 64) (w : World) : Calls Tryz.prog 56 #[.float .f64 x] w (Ret w (.bool (wholeB x))) := by
  cases hd : FloatKind.f64.decode x with
  | number s m e => exact whole_number x w hd
  | infinity s => exact whole_inf x w h64 hd
  | nan s t => exact whole_nan x w hd
end Go.Proofs.YtohidpmkoehmcaaGreatDoor
