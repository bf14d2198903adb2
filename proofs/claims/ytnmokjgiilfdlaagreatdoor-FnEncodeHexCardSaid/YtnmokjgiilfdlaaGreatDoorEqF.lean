/-
  Finite numbers; equal points, lists and shapes: plain facts. spec.IsFinite, spec.all, spec.FiniteShape, walked.
-/
import Derived.Test.YtnmokjgiilfdlaaGreatDoorGeo3
set_option linter.all false
namespace Go.Proofs.YtnmokjgiilfdlaaGreatDoor
open PubFl Go.RowKit Ieee

attribute [local go_sem] cell_ext frozen_ext ext_setCell cell_store size_ext_eq lt_p0 lt_p1 lt_p2 lt_p3 lt_p4 lt_p5 lt_p6 lt_p7 lt_p8 lt_p9 lt_p10 lt_p11 lt_p12 lt_p13 lt_p14 lt_p15 lt_p16 lt_p17 lt_p18 lt_p19 lt_p20 lt_p21 lt_p22 lt_p23 lt_p24 lt_p25 lt_p26 lt_p27 lt_p28 lt_p29 lt_p30 lt_p31 lt_p32 lt_q1 lt_q2 lt_q3 lt_q4 lt_q5 lt_q6 lt_q7 lt_q8 lt_q9 lt_q10 lt_q11 lt_q12 lt_q13 lt_q14 lt_q15 lt_q16 lt_q17 lt_q18 lt_q19 lt_q20 lt_q21 lt_q22 lt_q23 lt_q24 lt_q25 lt_q26 lt_q27 lt_q28 lt_q29 lt_q30 lt_q31 lt_q32 run_fop run_store_float
attribute [local go_sem high] cmp_eql cmp_neq cmp_lss cmp_leq cmp_gtr cmp_geq

def finB (x : Nat) : Bool := (floatBits .sub .f64 x x).isSome
theorem read_nan (t : Nat) : ∃ s f, double.read ((t % 2) * 2 ^ 63 + 0x7ff0000000000000 + 1 + (t / 2) % (2 ^ 52 - 1)) = .nan s f := by
  have h1 : t % 2 < 2 := Nat.mod_lt _ (by decide)
  have h2 : (t / 2) % (2 ^ 52 - 1) < 2 ^ 52 - 1 := Nat.mod_lt _ (by decide)
  generalize t % 2 = a at *
  generalize (t / 2) % (2 ^ 52 - 1) = b at *
  have hs : double.signWeight = 2 ^ 63 := rfl
  have hb : double.binade = 2 ^ 52 := rfl
  have hi : double.infRung = 2047 * 2 ^ 52 := rfl
  unfold Format.read
  simp only [hs, hb, hi]
  have e : (a * 2 ^ 63 + 9218868437227405312 + 1 + b) % 2 ^ 63 = 9218868437227405312 + 1 + b := by omega
  rw [e, if_neg (by omega), if_neg (by omega), if_neg (by omega)]
  exact ⟨_, _, rfl⟩
theorem nan_eqF {x y : Nat} {s : Bool} {f : Nat} (h : double.read x = .nan s f) : eqF x y = false := by
  unfold eqF
  have : FloatKind.f64.format.order x y = none := by
    show (double.read x).order (double.read y) = none
    rw [h]; cases double.read y <;> rfl
  rw [this]; rfl
theorem run_sub_nan {P : Program} {t : TypeId} {x y : Nat} (h : floatBits .sub .f64 x y = none) (w : World) : ∃ r, (binOp .sub t (.float .f64 x) (.float .f64 y)).run P w = .ok (.float .f64 r) w.drew ∧ eqF r 0 = false := by
  unfold floatBits at h
  simp only at h
  have : ∃ n, (binOp .sub t (.float .f64 x) (.float .f64 y)).run P w = .ok (.float .f64 ((n % 2) * 2 ^ 63 + 0x7ff0000000000000 + 1 + (n / 2) % (2 ^ 52 - 1))) w.drew := by
    simp only [binOp, Op.floatArith, h]
    exact ⟨_, rfl⟩
  obtain ⟨n, hn⟩ := this
  obtain ⟨s, f, hr⟩ := read_nan n
  exact ⟨_, hn, nan_eqF hr⟩
theorem fin_isV {x : Nat} (hx : x < 2 ^ 64) (h : finB x = true) : ∃ q, IsV x q := by
  unfold finB floatBits at h
  simp only at h
  have h' : (double.sub x x).isSome = true := h
  unfold Format.sub at h'
  cases hr : double.read x with
  | number s m e => exact ⟨_, hx, s, m, e, hr, rfl⟩
  | infinity s => rw [hr] at h'; cases s <;> simp [Datum.opposite, Datum.sum] at h'
  | nan s f => rw [hr] at h'; simp [Datum.opposite, Datum.sum] at h'
theorem fin_sub {x : Nat} (hx : x < 2 ^ 64) (h : finB x = true) : FOk .sub x x ∧ eqF (fop .sub x x) 0 = true ∧ eqF x x = true := by
  obtain ⟨q, hq⟩ := fin_isV hx h
  have e0 : q - q = ((0 : Int) : Rat) := by have : ((0 : Int) : Rat) = 0 := rfl
                                            rw [this]; grind
  obtain ⟨o, v⟩ := sub_few hq hq (by rw [e0]; exact few_int (by decide))
  rw [e0] at v
  refine ⟨o, ?_, ?_⟩
  · rw [eqF_int v zero_isV]; rfl
  · rw [eqF_isV hq hq]; simp
/-- all coordinates -/
def allPts (f : Nat → Bool) (ps : List (Nat × Nat)) : Bool := (List.range ps.length).all fun i => f (ps.getD i (0, 0)).1 && f (ps.getD i (0, 0)).2
def allSh (f : Nat → Bool) : Nat → Sh → Bool
  | 0, _ => true
  | d + 1, s => ((List.range s.lists.length).all fun i => allPts f (s.lists.getD i [])) && (List.range s.parts.length).all fun i => allSh f d (s.parts.getD i dsh)
def AllTo (f : Nat → Bool) (k : Nat) : Prop := ∀ i, i < k → f i = true
theorem AllTo.succ {f : Nat → Bool} {k : Nat} (h : AllTo f k) (hk : f k = true) : AllTo f (k + 1) := fun i hi => by
  by_cases c : i = k
  · subst c; exact hk
  · exact h i (by omega)
theorem all_yes {f : Nat → Bool} {n : Nat} (h : AllTo f n) : ((List.range n).all f) = true := by
  rw [List.all_eq_true]; intro i hi; exact h i (List.mem_range.1 hi)
theorem all_no {f : Nat → Bool} {n k : Nat} (hk : k < n) (h : f k = false) : ((List.range n).all f) = false := List.all_eq_false.2 ⟨k, List.mem_range.2 hk, by rw [h]; decide⟩
theorem all_to {f : Nat → Bool} {n : Nat} (h : ((List.range n).all f) = true) : AllTo f n := fun i hi => List.all_eq_true.1 h i (List.mem_range.2 hi)

def finShB (s : Sh) : Bool := isShB s && allSh finB 4 s
end Go.Proofs.YtnmokjgiilfdlaaGreatDoor
