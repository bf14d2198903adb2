/-
  planar.ringCentroidArea on rings of whole numbers, planar.Area of a ring, impl.RingArea.
-/
import Derived.Test.YtohidpmkoehmcaaGreatDoorMG4
import Derived.Test.YtohidpmkoehmcaaGreatDoorSegF
set_option linter.all false
namespace Go.Proofs.YtohidpmkoehmcaaGreatDoor
open PubFl Go.RowKit

attribute [local go_sem] cell_ext frozen_ext ext_setCell cell_store size_ext_eq lt_p0 lt_p1 lt_p2 lt_p3 lt_p4 lt_p5 lt_p6 lt_p7 lt_p8 lt_p9 lt_p10 lt_p11 lt_p12 lt_p13 lt_p14 lt_p15 lt_p16 lt_p17 lt_p18 lt_p19 lt_p20 lt_p21 lt_p22 lt_p23 lt_p24 lt_p25 lt_p26 lt_p27 lt_p28 lt_p29 lt_p30 lt_p31 lt_p32 lt_q1 lt_q2 lt_q3 lt_q4 lt_q5 lt_q6 lt_q7 lt_q8 lt_q9 lt_q10 lt_q11 lt_q12 lt_q13 lt_q14 lt_q15 lt_q16 lt_q17 lt_q18 lt_q19 lt_q20 lt_q21 lt_q22 lt_q23 lt_q24 lt_q25 lt_q26 lt_q27 lt_q28 lt_q29 lt_q30 lt_q31 lt_q32 run_fop run_store_float
attribute [local go_sem high] cmp_eql cmp_neq cmp_lss cmp_leq cmp_gtr cmp_geq

/-- the moments -/
def momT (z x y : Nat → Int) (i : Nat) : Int := (z (i + 1) + z (i + 2) - 2 * z 0) * offT x y i

theorem offT_bd {ps : List (Nat × Nat)} {x y : Nat → Int} (hi : IntPts ps x y) (i : Nat) (h : i + 2 < ps.length) : (-4000000 ≤ (x (i + 1) - x 0) * (y (i + 2) - y 0) ∧ (x (i + 1) - x 0) * (y (i + 2) - y 0) ≤ 4000000) ∧ (-4000000 ≤ (x (i + 2) - x 0) * (y (i + 1) - y 0) ∧ (x (i + 2) - x 0) * (y (i + 1) - y 0) ≤ 4000000) := by
  obtain ⟨_, _, u0, u1⟩ := hi 0 (by omega)
  obtain ⟨_, _, d1, d2⟩ := hi (i + 1) (by omega)
  obtain ⟨_, _, d3, d4⟩ := hi (i + 2) (by omega)
  have h1 := mul_le_sq (m := 2000) (a := x (i + 1) - x 0) (b := y (i + 2) - y 0) (by omega) (by omega)
  have h2 := mul_le_sq (m := 2000) (a := x (i + 2) - x 0) (b := y (i + 1) - y 0) (by omega) (by omega)
  omega
theorem momT_bd {ps : List (Nat × Nat)} {x y z : Nat → Int} (hi : IntPts ps x y) (hz : ∀ i, i < ps.length → -1000 ≤ z i ∧ z i ≤ 1000) (i : Nat) (h : i + 2 < ps.length) : -32000000000 ≤ momT z x y i ∧ momT z x y i ≤ 32000000000 := by
  have h0 := hz 0 (by omega)
  have h1 := hz (i + 1) (by omega)
  have h2 := hz (i + 2) (by omega)
  have hb := offT_bd hi i h
  have ho : -8000000 ≤ offT x y i ∧ offT x y i ≤ 8000000 := by unfold offT; omega
  have h3 : (momT z x y i).natAbs ≤ 4000 * 8000000 := by
    unfold momT
    rw [Int.natAbs_mul]; exact Nat.mul_le_mul (by omega) (by omega)
  omega

/-- one more term of a moment -/
theorem mom_step {zk zl z0 a c : Nat} {Z1 Z2 Z0 A C : Int} (h1 : IsV zk Z1) (h2 : IsV zl Z2) (h0 : IsV z0 Z0) (ha : IsV a A) (hc : IsV c C) (b1 : -1000 ≤ Z1 ∧ Z1 ≤ 1000) (b2 : -1000 ≤ Z2 ∧ Z2 ≤ 1000) (b0 : -1000 ≤ Z0 ∧ Z0 ≤ 1000)
    (bA : -8000000 ≤ A ∧ A ≤ 8000000) (bC : -32000000000000 ≤ C ∧ C ≤ 32000000000000) :
    FOk .add zk zl ∧ FOk .mul 4611686018427387904 z0 ∧ FOk .sub (fop .add zk zl) (fop .mul 4611686018427387904 z0) ∧ FOk .mul (fop .sub (fop .add zk zl) (fop .mul 4611686018427387904 z0)) a ∧
      FOk .add c (fop .mul (fop .sub (fop .add zk zl) (fop .mul 4611686018427387904 z0)) a) ∧ IsV (fop .add c (fop .mul (fop .sub (fop .add zk zl) (fop .mul 4611686018427387904 z0)) a)) ((C + (Z1 + Z2 - 2 * Z0) * A : Int) : Rat) := by
  have two : IsV 4611686018427387904 ((2 : Int) : Rat) := by
    rw [show (4611686018427387904 : Nat) = fl 2 by kernel_rfl]; exact fl_isV (by decide)
  have hm : ((Z1 + Z2 - 2 * Z0) * A).natAbs ≤ 4000 * 8000000 := by rw [Int.natAbs_mul]; exact Nat.mul_le_mul (by omega) (by omega)
  obtain ⟨o1, v1⟩ := add_int h1 h2 (by omega)
  obtain ⟨o2, v2⟩ := mul_int two h0 (by omega)
  obtain ⟨o3, v3⟩ := sub_int v1 v2 (by omega)
  obtain ⟨o4, v4⟩ := mul_int v3 ha (by omega)
  obtain ⟨o5, v5⟩ := add_int hc v4 (by omega)
  exact ⟨o1, o2, o3, o4, o5, v5⟩

/-- the end: the area halved, and the moments divided -/
theorem area_end {s c d o p : Nat} {A C D O P : Int} (hs : IsV s A) (hc : IsV c C) (hd : IsV d D) (ho : IsV o O) (hp : IsV p P) (hA : A ≠ 0) (bA : -8000000000 ≤ A ∧ A ≤ 8000000000) (bC : -32000000000000 ≤ C ∧ C ≤ 32000000000000) (bD : -32000000000000 ≤ D ∧ D ≤ 32000000000000) (bO : -1000 ≤ O ∧ O ≤ 1000) (bP : -1000 ≤ P ∧ P ≤ 1000) :
    FOk .quo s 4611686018427387904 ∧ IsV (fop .quo s 4611686018427387904) ((A : Rat) * (2 : Rat) ^ (-(1 : Int))) ∧
      FOk .mul 4618441417868443648 (fop .quo s 4611686018427387904) ∧
      FOk .quo c (fop .mul 4618441417868443648 (fop .quo s 4611686018427387904)) ∧ FOk .quo d (fop .mul 4618441417868443648 (fop .quo s 4611686018427387904)) ∧
      FOk .add (fop .quo c (fop .mul 4618441417868443648 (fop .quo s 4611686018427387904))) o ∧ FOk .add (fop .quo d (fop .mul 4618441417868443648 (fop .quo s 4611686018427387904))) p := by
  have two : IsV 4611686018427387904 ((2 : Int) : Rat) := by
    rw [show (4611686018427387904 : Nat) = fl 2 by kernel_rfl]; exact fl_isV (by decide)
  have six : IsV 4618441417868443648 ((6 : Int) : Rat) := by
    rw [show (4618441417868443648 : Nat) = fl 6 by kernel_rfl]; exact fl_isV (by decide)
  have half : (2 : Rat) ^ (-(1 : Int)) = 1 / 2 := by decide +kernel
  obtain ⟨o1, v1⟩ := quo_few (v := (A : Rat) * (2 : Rat) ^ (-((1 : Nat) : Int))) hs two (by decide) (by
    have h2 : ((2 : Int) : Rat) = 2 := rfl
    have h3 : (2 : Rat) ^ (-((1 : Nat) : Int)) = 1 / 2 := half
    rw [h2, h3]; grind) (few_part 1 (by decide) (by omega))
  have v1' : IsV (fop .quo s 4611686018427387904) ((A : Rat) * (2 : Rat) ^ (-(1 : Int))) := v1
  have e3 : ((6 : Int) : Rat) * ((A : Rat) * (2 : Rat) ^ (-(1 : Int))) = ((3 * A : Int) : Rat) := by
    rw [half, Rat.intCast_mul]
    have h6 : ((6 : Int) : Rat) = 6 := rfl
    have h3 : ((3 : Int) : Rat) = 3 := rfl
    rw [h6, h3]; grind
  obtain ⟨o2, v2⟩ := mul_few six v1' (by rw [e3]; exact few_int (by omega))
  rw [e3] at v2
  have hne : ((3 * A : Int) : Rat) ≠ 0 := fun h => by
    have : (3 * A : Int) = 0 := Rat.intCast_inj.1 h
    omega
  have q : ∀ {z k : Nat} {Z K : Int}, IsV z Z → IsV k K → -32000000000000 ≤ Z ∧ Z ≤ 32000000000000 → -1000 ≤ K ∧ K ≤ 1000 →
      FOk .quo z (fop .mul 4618441417868443648 (fop .quo s 4611686018427387904)) ∧ FOk .add (fop .quo z (fop .mul 4618441417868443648 (fop .quo s 4611686018427387904))) k := by
    intro z k Z K hz hk bz bk
    have mz : Mag (Z : Rat) 32000000000000 := ⟨int_le (a := -32000000000000) bz.1, int_le (b := 32000000000000) bz.2⟩
    have mk' : Mag (K : Rat) 1000 := ⟨int_le (a := -1000) bk.1, int_le (b := 1000) bk.2⟩
    have hq : Mag ((Z : Rat) / ((3 * A : Int) : Rat)) 32000000000000 := by
      have e : (Z : Rat) / ((3 * A : Int) : Rat) * ((3 * A : Int) : Rat) = Z := by grind
      generalize (Z : Rat) / ((3 * A : Int) : Rat) = t at *
      obtain ⟨z1, z2⟩ := mz
      rcases (show 1 ≤ 3 * A ∨ 3 * A ≤ -1 by omega) with h | h
      · have h1 : (1 : Rat) ≤ ((3 * A : Int) : Rat) := int_le (a := 1) h
        generalize ((3 * A : Int) : Rat) = w at *
        constructor
        · rcases Std.lt_trichotomy t (-32000000000000) with g | g | g
          · have := Rat.mul_pos (show 0 < -32000000000000 - t by grind) (show 0 < w by grind)
            grind
          · grind
          · grind
        · rcases Std.lt_trichotomy t 32000000000000 with g | g | g
          · grind
          · grind
          · have := Rat.mul_pos (show 0 < t - 32000000000000 by grind) (show 0 < w by grind)
            grind
      · have h1 : ((3 * A : Int) : Rat) ≤ -1 := int_le (b := -1) h
        generalize ((3 * A : Int) : Rat) = w at *
        constructor
        · rcases Std.lt_trichotomy t (-32000000000000) with g | g | g
          · have := Rat.mul_pos (show 0 < -32000000000000 - t by grind) (show 0 < -w by grind)
            grind
          · grind
          · grind
        · rcases Std.lt_trichotomy t 32000000000000 with g | g | g
          · grind
          · grind
          · have := Rat.mul_pos (show 0 < t - 32000000000000 by grind) (show 0 < -w by grind)
            grind
    obtain ⟨r, o, v, w1, w2⟩ := quo_near (M := 32000000000000) hz v2 hne hq (huge_ge (by decide +kernel))
    have tl := tiny_lit
    rw [eps_lit] at w1 w2
    obtain ⟨h1, h2⟩ := hq
    obtain ⟨k1, k2⟩ := mk'
    obtain ⟨r', o', _, _⟩ := add_near (M := 40000000000000) v hk (by constructor <;> grind) (huge_ge (by decide))
    exact ⟨o, o'⟩
  obtain ⟨a1, a2⟩ := q hc ho bC bO
  obtain ⟨a3, a4⟩ := q hd hp bD bP
  exact ⟨o1, v1', o2, a1, a3, a2, a4⟩

/-- what comes of it: a middle, and the area in this word -/
def AreaRet (w : World) (s0 : Nat) (e : Ending) (w' : World) : Prop := ∃ cx cy : Nat, e = .returned (.tuple #[.agg #[.float .f64 cx, .float .f64 cy], .float .f64 s0]) ∧ ∃ u, w' = ext w u

/-- .. and how the middle is reckoned -/
def AreaMid (A MX MY : Int) (ox oy cx cy : Nat) : Prop := A ≠ 0 → ∃ s mx my : Nat, IsV s A ∧ IsV mx MX ∧ IsV my MY ∧ cx = fop .add (fop .quo mx (fop .mul 4618441417868443648 (fop .quo s 4611686018427387904))) ox ∧ cy = fop .add (fop .quo my (fop .mul 4618441417868443648 (fop .quo s 4611686018427387904))) oy
def AreaRet2 (w : World) (s0 : Nat) (M : Nat → Nat → Prop) (e : Ending) (w' : World) : Prop := ∃ cx cy : Nat, e = .returned (.tuple #[.agg #[.float .f64 cx, .float .f64 cy], .float .f64 s0]) ∧ M cx cy ∧ ∃ u, w' = ext w u

set_option maxRecDepth 100000 in
set_option maxHeartbeats 4000000 in
theorem ringCentroid2_c (b off cap : Nat) (ps : List (Nat × Nat)) (hn : ps.length ≤ 1000) (hpos : 2 ≤ ps.length) (w : World) (hb : b < w.heap.size) (hpt : PtsAt w b off ps) (x y : Nat → Int) (hi : IntPts ps x y)
    (s0 : Nat) (v0 : IsV s0 ((sumTo (offT x y) (ps.length - 2) : Int) * (2 : Rat) ^ (-(1 : Int)))) (z0 : sumTo (offT x y) (ps.length - 2) = 0 → s0 = 0) :
    Calls Tryz.prog 41 #[.slice (some ⟨b, off, none⟩) ps.length cap] w (AreaRet2 w s0 (AreaMid (sumTo (offT x y) (ps.length - 2)) (sumTo (momT x x y) (ps.length - 2)) (sumTo (momT y x y) (ps.length - 2)) (ps[0]'(by omega)).1 (ps[0]'(by omega)).2)) := by
  obtain ⟨a0, a1⟩ := hpt 0 (by omega)
  obtain ⟨u0, u1, r0, r1⟩ := hi 0 (by omega)
  have hbdx : ∀ i, i < ps.length → -1000 ≤ x i ∧ x i ≤ 1000 := fun i h => (hi i h).2.2.1
  have hbdy : ∀ i, i < ps.length → -1000 ≤ y i ∧ y i ≤ 1000 := fun i h => (hi i h).2.2.2
  obtain ⟨⟨ox, oy⟩, hq0⟩ : ∃ q, ps[0]'(by omega) = q := ⟨_, rfl⟩
  rw [hq0] at a0 a1 u0 u1
  rw [hq0]
  simp only [Nat.zero_mul, Nat.add_zero] at a0 a1
  clear hq0
  obtain ⟨l, hl⟩ : ∃ l : Nat, ps.length = l + 2 := ⟨ps.length - 2, by omega⟩
  have hsum : ((ps.length : Int) - 1) = (l : Int) + 1 := by omega
  have hw2 : IntKind.i64.wrap ((l : Int) + 1) = (l : Int) + 1 := wrap_in _ (by omega) (by omega)
  have hl1 : ((0 : Int) < (ps.length : Int)) := by omega
  have hl2 : ((ps.length : Int) = 0) = False := eq_false (by omega)
  have hl3 : ((ps.length : Int) == 0) = false := beq_eq_false_iff_ne.2 (by omega)
  rw [show ps.length - 2 = l by omega] at v0 z0 ⊢
  generalize hM : AreaMid (sumTo (offT x y) l) (sumTo (momT x x y) l) (sumTo (momT y x y) l) ox oy = M
  have HM := Lib.hid hM
  clear hM
  have hln : l ≤ 998 := by omega
  have Hl := Lib.hid hl
  have Hpt := Lib.hid hpt
  have Hi := Lib.hid hi
  have Hx := Lib.hid hbdx
  have Hy := Lib.hid hbdy
  have V0 := Lib.hid v0
  have Z0 := Lib.hid z0
  clear hl hpt hi hbdx hbdy v0 z0
  go_enter Tryz.func41, Tryz.ntmps41
  go_wp2_with fail
  go_loopw [5, 8] (fun s5 s8 wr => ∃ (k s cx cy : Nat), k ≤ l ∧ s5 = .float .f64 s ∧ s8 = .int .i64 ((k : Int) + 1) ∧ IsV s (sumTo (offT x y) k : Int) ∧ IsV cx (sumTo (momT x x y) k : Int) ∧ IsV cy (sumTo (momT y x y) k : Int) ∧ Kp w wr ∧ NewPt w wr w.heap.size 0 0 ∧ NewPt w wr (w.heap.size + 1) cx cy) (fun _ s8 _ => ps.length - (intOf s8).toNat)
  case atStart => exact ⟨0, 0, 0, 0, by omega, rfl, rfl, zero_isV, zero_isV, zero_isV, (by repeat (first | (with_reducible exact Kp.refl _) | (with_reducible assumption) | (with_reducible apply Kp.ext) | (with_reducible apply Kp.alloc) | (with_reducible apply Kp.drew) | (with_reducible apply Kp.drewN) | (with_reducible refine Kp.setCell ?_ (by first | (dsimp only; omega) | (simp; omega) | (simp; done) | (simp [size_ext_eq]; omega)) _))), (by repeat (first | assumption | ((with_reducible refine NewPt.at ?_ _ _ _ ?_) <;> (first | (simp; done) | (simp; omega) | omega | (simp [size_ext_eq]; done) | (simp [size_ext_eq]; omega))) | (with_reducible apply NewPt.alloc) | (with_reducible apply NewPt.drew) | (with_reducible apply NewPt.drewN) | (with_reducible apply NewPt.ext) | (with_reducible exact NewPt.store (by assumption) _ _) | (with_reducible refine NewPt.other ?_ (by omega) _ _))), (by repeat (first | assumption | ((with_reducible refine NewPt.at ?_ _ _ _ ?_) <;> (first | (simp; done) | (simp; omega) | omega | (simp [size_ext_eq]; done) | (simp [size_ext_eq]; omega))) | (with_reducible apply NewPt.alloc) | (with_reducible apply NewPt.drew) | (with_reducible apply NewPt.drewN) | (with_reducible apply NewPt.ext) | (with_reducible exact NewPt.store (by assumption) _ _) | (with_reducible refine NewPt.other ?_ (by omega) _ _)))⟩
  case round =>
    obtain ⟨k, s, cx, cy, hkn, rfl, rfl, hsv, hcx, hcy, hkp, m1, m2⟩ := hrel
    have hl := Hl.out
    have hsm := sumTo_abs (t := offT x y) (m := 8000000) (n := k) fun i hik => by
      have := offT_bd Hi.out i (by omega)
      unfold offT; omega
    have hmx := sumTo_abs (t := momT x x y) (m := 32000000000) (n := k) fun i hik => momT_bd Hi.out Hx.out i (by omega)
    have hmy := sumTo_abs (t := momT y x y) (m := 32000000000) (n := k) fun i hik => momT_bd Hi.out Hy.out i (by omega)
    have hk1000 : (k : Int) ≤ 1000 := by omega
    by_cases hlt : k < l
    · obtain ⟨e0, e1⟩ := Hpt.out.kp hb hkp (k + 1) (by omega)
      obtain ⟨f0, f1⟩ := Hpt.out.kp hb hkp (k + 2) (by omega)
      obtain ⟨v0, v1, c1, c2⟩ := Hi.out (k + 1) (by omega)
      obtain ⟨v2, v3, c3, c4⟩ := Hi.out (k + 2) (by omega)
      have hstep : sumTo (offT x y) (k + 1) = sumTo (offT x y) k + ((x (k + 1) - x 0) * (y (k + 2) - y 0) - (x (k + 2) - x 0) * (y (k + 1) - y 0)) := rfl
      have hsx : sumTo (momT x x y) (k + 1) = sumTo (momT x x y) k + (x (k + 1) + x (k + 2) - 2 * x 0) * ((x (k + 1) - x 0) * (y (k + 2) - y 0) - (x (k + 2) - x 0) * (y (k + 1) - y 0)) := rfl
      have hsy : sumTo (momT y x y) (k + 1) = sumTo (momT y x y) k + (y (k + 1) + y (k + 2) - 2 * y 0) * ((x (k + 1) - x 0) * (y (k + 2) - y 0) - (x (k + 2) - x 0) * (y (k + 1) - y 0)) := rfl
      have hok := offT_bd Hi.out k (by omega)
      obtain ⟨m1', n1⟩ := sub_int v0 u0 (by omega)
      obtain ⟨m2', n2⟩ := sub_int v3 u1 (by omega)
      obtain ⟨m3, n3⟩ := sub_int v2 u0 (by omega)
      obtain ⟨m4, n4⟩ := sub_int v1 u1 (by omega)
      obtain ⟨m5, n5⟩ := mul_int n1 n2 (by omega)
      obtain ⟨m6, n6⟩ := mul_int n3 n4 (by omega)
      obtain ⟨m7, n7⟩ := sub_int n5 n6 (by omega)
      obtain ⟨m8, n8⟩ := add_int hsv n7 (by omega)
      obtain ⟨q1, q2, q3, q4, q5, q6⟩ := mom_step v0 v2 u0 n7 hcx (by omega) (by omega) (by omega) (by omega) (by omega)
      obtain ⟨t1, t2, t3, t4, t5, t6⟩ := mom_step v1 v3 u1 n7 hcy (by omega) (by omega) (by omega) (by omega) (by omega)
      rw [← hstep] at n8
      rw [← hsx] at q6
      rw [← hsy] at t6
      obtain ⟨⟨px, py⟩, hq⟩ : ∃ q, ps[k + 1]'(by omega) = q := ⟨_, rfl⟩
      obtain ⟨⟨qx, qy⟩, hq'⟩ : ∃ q, ps[k + 2]'(by omega) = q := ⟨_, rfl⟩
      simp only [hq, hq'] at e0 e1 f0 f1 m1' m2' m3 m4 m5 m6 m7 m8 n8 q1 q2 q3 q4 q5 q6 t1 t2 t3 t4 t5 t6
      have hbk : b < wr.heap.size := Nat.lt_of_lt_of_le hb hkp.size
      have hk2 : (0 : Int) ≤ (k : Int) + 1 := by omega
      have hk3 : ((k : Int) + 1 < (l : Int) + 1) = True := eq_true (by omega)
      have hk3' : (k : Int) < (l : Int) := by omega
      have hk4 : ((k : Int) + 1).toNat = k + 1 := by omega
      have hk5 : ((k : Int) + 1 + 1).toNat = k + 2 := by omega
      have hk6 : (0 : Int) ≤ (k : Int) + 1 + 1 := by omega
      have hk7 : ((k : Int) + 1 < (ps.length : Int)) := by omega
      have hk8 : ((k : Int) + 1 + 1 < (ps.length : Int)) := by omega
      have hw3 : IntKind.i64.wrap ((k : Int) + 1 + 1) = (k : Int) + 1 + 1 := wrap_in _ (by omega) (by omega)
      have hne : b ≠ w.heap.size + 1 := by omega
      obtain ⟨_, i1, g1, g2, g3, g4⟩ := id m1
      obtain ⟨_, i2, j1, j2, j3, j4⟩ := id m2
      clear hq hq' hsm hstep hsx hsy hmx hmy c1 c2 c3 c4 v0 v1 v2 v3 n1 n2 n3 n4 n5 n6 n7 hok hl
      go_wp2_with fail
      first | (with_reducible refine wp_region_ext_lit2 ?_ ?_ ?_) | refine wp_region_ext_lit ?_ ?_ ?_
      kernel_rfl
      kernel_rfl
      repeat (go_big_quiet_step (fail))
      refine wpQuiet_nil ?_
      rintro _ ⟨u, rfl⟩
      go_wp2_with fail
      first | (with_reducible refine wp_region_ext_tail2 21 ?_ ?_ ?_) | refine wp_region_ext_tail 21 ?_ ?_ ?_
      kernel_rfl
      kernel_rfl
      simp only [List.take_succ_cons, List.take_zero, List.drop_succ_cons, List.drop_zero]
      repeat (go_big_quiet_step (fail))
      refine wpQuiet_nil ?_
      rintro _ ⟨u, rfl⟩
      go_wp2_with fail
      first | (with_reducible refine wp_region_ext_tail2 21 ?_ ?_ ?_) | refine wp_region_ext_tail 21 ?_ ?_ ?_
      kernel_rfl
      kernel_rfl
      simp only [List.take_succ_cons, List.take_zero, List.drop_succ_cons, List.drop_zero]
      repeat (go_big_quiet_step (fail))
      refine wpQuiet_nil ?_
      rintro _ ⟨u, rfl⟩
      go_wp2_with fail
      go_roundw
      case rel => exact ⟨k + 1, _, _, _, by omega, rfl, by go_num, n8, q6, t6, (by repeat (first | (with_reducible exact Kp.refl _) | (with_reducible assumption) | (with_reducible apply Kp.ext) | (with_reducible apply Kp.alloc) | (with_reducible apply Kp.drew) | (with_reducible apply Kp.drewN) | (with_reducible refine Kp.setCell ?_ (by first | (dsimp only; omega) | (simp; omega) | (simp; done) | (simp [size_ext_eq]; omega)) _))), (m1.other (by omega) _ _).ext _, (m2.store _ _).ext _⟩
      case measure => simp [intOf]; omega
    · have hk3 : ((k : Int) + 1 < (l : Int) + 1) = False := eq_false (by omega)
      have hk3' : ((k : Int) < (l : Int)) = False := eq_false (by omega)
      have hk : k = l := by omega
      rw [hk] at hsv hcx hcy hsm hmx hmy
      have g1 : eqF s 0 = decide (sumTo (offT x y) l = 0) := eqF_int hsv zero_isV
      have hbk : b < wr.heap.size := Nat.lt_of_lt_of_le hb hkp.size
      have e0 := Kp.cell hkp a0 hb
      have e1 := Kp.cell hkp a1 hb
      have hne : b ≠ w.heap.size + 1 := by omega
      have hne' : b ≠ w.heap.size := by omega
      obtain ⟨_, i1, p1, p2, p3, p4⟩ := id m1
      obtain ⟨_, i2, j1, j2, j3, j4⟩ := id m2
      by_cases hA : sumTo (offT x y) l = 0
      · rw [decide_eq_true hA] at g1
        have hs0 := Z0.out hA
        have HA := Lib.hid hA
        subst hs0
        clear hsm hmx hmy hA hl
        go_wp2_with fail
        exact bodyPost_ret (v := .tuple #[.agg #[.float .f64 ox, .float .f64 oy], .float .f64 0]) (by simp [results, Tryz.results41, go_sem, p1, p2]) rfl ⟨ox, oy, rfl, by rw [← HM.out]; exact fun h => absurd HA.out h, _, ext_of (show Kp w _ from (by repeat (first | (with_reducible exact Kp.refl _) | (with_reducible assumption) | (with_reducible apply Kp.ext) | (with_reducible apply Kp.alloc) | (with_reducible apply Kp.drew) | (with_reducible apply Kp.drewN) | (with_reducible refine Kp.setCell ?_ (by first | (dsimp only; omega) | (simp; omega) | (simp; done) | (simp [size_ext_eq]; omega)) _))))⟩
      · rw [decide_eq_false hA] at g1
        obtain ⟨o1, va, o2, o3, o4, o5, o6⟩ := area_end hsv hcx hcy u0 u1 hA (by omega) (by omega) (by omega) (by omega) (by omega)
        have hne0 : ((sumTo (offT x y) l : Int) : Rat) * (2 : Rat) ^ (-(1 : Int)) ≠ 0 := by
          have half : (2 : Rat) ^ (-(1 : Int)) = 1 / 2 := by decide +kernel
          rw [half]
          intro h
          have : ((sumTo (offT x y) l : Int) : Rat) = 0 := by grind
          exact hA (Rat.intCast_inj.1 this)
        have hs0 : s0 = fop .quo s 4611686018427387904 := isV_bits V0.out va hne0
        have Hs0 := Lib.hid hs0
        have Hmid := Lib.hid (show AreaMid (sumTo (offT x y) l) (sumTo (momT x x y) l) (sumTo (momT y x y) l) ox oy _ _ from fun _ => ⟨s, cx, cy, hsv, hcx, hcy, rfl, rfl⟩)
        clear hsm hmx hmy hA hne0 hs0 va hl
        go_wp2_with fail
        refine bodyPost_ret (v := .tuple #[.agg #[.float .f64 _, .float .f64 _], .float .f64 _]) (by simp [results, Tryz.results41, go_sem, p1, p2]; exact ⟨⟨rfl, rfl⟩, rfl⟩) rfl ⟨_, _, by rw [Hs0.out], by rw [← HM.out]; exact Hmid.out, _, ext_of (show Kp w _ from (by repeat (first | (with_reducible exact Kp.refl _) | (with_reducible assumption) | (with_reducible apply Kp.ext) | (with_reducible apply Kp.alloc) | (with_reducible apply Kp.drew) | (with_reducible apply Kp.drewN) | (with_reducible refine Kp.setCell ?_ (by first | (dsimp only; omega) | (simp; omega) | (simp; done) | (simp [size_ext_eq]; omega)) _))))⟩
theorem ringCentroid_c (b off cap : Nat) (ps : List (Nat × Nat)) (hn : ps.length ≤ 1000) (hpos : 2 ≤ ps.length) (w : World) (hb : b < w.heap.size) (hpt : PtsAt w b off ps) (x y : Nat → Int) (hi : IntPts ps x y)
    (s0 : Nat) (v0 : IsV s0 ((sumTo (offT x y) (ps.length - 2) : Int) * (2 : Rat) ^ (-(1 : Int)))) (z0 : sumTo (offT x y) (ps.length - 2) = 0 → s0 = 0) :
    Calls Tryz.prog 41 #[.slice (some ⟨b, off, none⟩) ps.length cap] w (AreaRet w s0) :=
  (ringCentroid2_c b off cap ps hn hpos w hb hpt x y hi s0 v0 z0).mono fun _ _ ⟨cx, cy, he, _, hu⟩ => ⟨cx, cy, he, hu⟩
end Go.Proofs.YtohidpmkoehmcaaGreatDoor
