/-
  multiPointCentroid, multiLineStringCentroid, walked.
-/
import Derived.Test.YtohidpmkoehmcaaGreatDoorLsc
import Derived.Test.YtohidpmkoehmcaaGreatDoorMG7
set_option linter.all false
namespace Go.Proofs.YtohidpmkoehmcaaGreatDoor
open PubFl Go.RowKit

attribute [local go_sem] cell_ext frozen_ext ext_setCell cell_store size_ext_eq lt_p0 lt_p1 lt_p2 lt_p3 lt_p4 lt_p5 lt_p6 lt_p7 lt_p8 lt_p9 lt_p10 lt_p11 lt_p12 lt_p13 lt_p14 lt_p15 lt_p16 lt_p17 lt_p18 lt_p19 lt_p20 lt_p21 lt_p22 lt_p23 lt_p24 lt_p25 lt_p26 lt_p27 lt_p28 lt_p29 lt_p30 lt_p31 lt_p32 lt_q1 lt_q2 lt_q3 lt_q4 lt_q5 lt_q6 lt_q7 lt_q8 lt_q9 lt_q10 lt_q11 lt_q12 lt_q13 lt_q14 lt_q15 lt_q16 lt_q17 lt_q18 lt_q19 lt_q20 lt_q21 lt_q22 lt_q23 lt_q24 lt_q25 lt_q26 lt_q27 lt_q28 lt_q29 lt_q30 lt_q31 lt_q32 run_fop run_store_float
attribute [local go_sem high] cmp_eql cmp_neq cmp_lss cmp_leq cmp_gtr cmp_geq

/-- what comes of it: a middle -/
def PtRet (w : World) (e : Ending) (w' : World) : Prop := ∃ cx cy : Nat, e = .returned (.agg #[.float .f64 cx, .float .f64 cy]) ∧ ∃ u, w' = ext w u

set_option maxRecDepth 100000 in
set_option maxHeartbeats 4000000 in
theorem mpc_c (b off cap : Nat) (ps : List (Nat × Nat)) (hn : ps.length ≤ 100) (hpos : 1 ≤ ps.length) (w : World) (hb : b < w.heap.size) (hpt : PtsAt w b off ps) (x y : Nat → Int) (hi : IntPts ps x y) :
    Calls Tryz.prog 39 #[.slice (some ⟨b, off, none⟩) ps.length cap] w (PtRet w) := by
  have hl1 : ((0 : Int) < (ps.length : Int)) := by omega
  have hl2 : ((ps.length : Int) = 0) = False := eq_false (by omega)
  have hl3 : ((ps.length : Int) == 0) = false := beq_eq_false_iff_ne.2 (by omega)
  have hL : IsV (fl (ps.length : Int)) ((ps.length : Int) : Rat) := fl_isV (by omega)
  have hF : Far ((ps.length : Int) : Rat) := .inr (by
    have := int_le (a := 1) (b := (ps.length : Int)) (by omega)
    have e : ((1 : Int) : Rat) = 1 := rfl
    rw [e] at this
    grind)
  have Hpt := Lib.hid hpt
  have Hi := Lib.hid hi
  have HL := Lib.hid hL
  have HF := Lib.hid hF
  clear hpt hi hL hF
  go_enter Tryz.func39, Tryz.ntmps39
  go_wp2_with fail
  go_loopw [3, 4, 14] (fun s3 s4 s14 wr => ∃ (k cx cy : Nat) (A B : Int), k ≤ ps.length ∧ s3 = .float .f64 cx ∧ s4 = .float .f64 cy ∧ s14 = .int .i64 k ∧ IsV cx A ∧ IsV cy B ∧ A.natAbs ≤ 1000 * k ∧ B.natAbs ≤ 1000 * k ∧ Kp w wr ∧ NewPt w wr w.heap.size 0 0) (fun _ _ s14 _ => ps.length - (intOf s14).toNat)
  case atStart => exact ⟨0, 0, 0, 0, 0, by omega, rfl, rfl, rfl, zero_isV, zero_isV, by decide, by decide, (by repeat (first | (with_reducible exact Kp.refl _) | (with_reducible assumption) | (with_reducible apply Kp.ext) | (with_reducible apply Kp.alloc) | (with_reducible apply Kp.drew) | (with_reducible apply Kp.drewN) | (with_reducible refine Kp.setCell ?_ (by first | (dsimp only; omega) | (simp; omega) | (simp; done) | (simp [size_ext_eq]; omega)) _))), (by repeat (first | assumption | ((with_reducible refine NewPt.at ?_ _ _ _ ?_) <;> (first | (simp; done) | (simp; omega) | omega | (simp [size_ext_eq]; done) | (simp [size_ext_eq]; omega))) | (with_reducible apply NewPt.alloc) | (with_reducible apply NewPt.drew) | (with_reducible apply NewPt.drewN) | (with_reducible apply NewPt.ext) | (with_reducible exact NewPt.store (by assumption) _ _) | (with_reducible refine NewPt.other ?_ (by omega) _ _)))⟩
  case round =>
    obtain ⟨k, cx, cy, A, B, hkn, rfl, rfl, rfl, hcx, hcy, bA, bB, hkp, m1⟩ := hrel
    obtain ⟨_, i1, p1, p2, p3, p4⟩ := id m1
    by_cases hlt : k < ps.length
    · obtain ⟨e0, e1⟩ := Hpt.out.kp hb hkp k (by omega)
      obtain ⟨v0, v1, c1, c2⟩ := Hi.out k (by omega)
      obtain ⟨⟨px, py⟩, hq⟩ : ∃ q, ps[k]'(by omega) = q := ⟨_, rfl⟩
      rw [hq] at e0 e1 v0 v1
      dsimp only at e0 e1 v0 v1
      obtain ⟨o1, n1⟩ := add_int hcx v0 (by omega)
      obtain ⟨o2, n2⟩ := add_int hcy v1 (by omega)
      have hbk : b < wr.heap.size := Nat.lt_of_lt_of_le hb hkp.size
      have hk7 : ((k : Int) < (ps.length : Int)) := by omega
      have N1 := Lib.hid n1
      have N2 := Lib.hid n2
      have B1 : Hid ((A + x k).natAbs ≤ 1000 * (k + 1)) := Lib.hid (by omega)
      have B2 : Hid ((B + y k).natAbs ≤ 1000 * (k + 1)) := Lib.hid (by omega)
      clear hq v0 v1 n1 n2 hcx hcy c1 c2 bA bB
      go_wp2_with fail
      go_roundw
      case rel => exact ⟨k + 1, _, _, _, _, by omega, rfl, rfl, by go_num, N1.out, N2.out, B1.out, B2.out, (by repeat (first | (with_reducible exact Kp.refl _) | (with_reducible assumption) | (with_reducible apply Kp.ext) | (with_reducible apply Kp.alloc) | (with_reducible apply Kp.drew) | (with_reducible apply Kp.drewN) | (with_reducible refine Kp.setCell ?_ (by first | (dsimp only; omega) | (simp; omega) | (simp; done) | (simp [size_ext_eq]; omega)) _))), m1.kp (by repeat (first | (with_reducible exact Kp.refl _) | (with_reducible assumption) | (with_reducible apply Kp.ext) | (with_reducible apply Kp.alloc) | (with_reducible apply Kp.drew) | (with_reducible apply Kp.drewN) | (with_reducible refine Kp.setCell ?_ (by first | (dsimp only; omega) | (simp; omega) | (simp; done) | (simp [size_ext_eq]; omega)) _)))⟩
      case measure => simp [intOf]; omega
    · obtain rfl : k = ps.length := by omega
      obtain ⟨o1, _⟩ := bd_quo (n := 20) (Bd.int hcx (by omega)) HL.out HF.out (by omega)
      obtain ⟨o2, _⟩ := bd_quo (n := 20) (Bd.int hcy (by omega)) HL.out HF.out (by omega)
      have hfl : ∀ n : Int, floatOfInt .f64 n = fl n := fun _ => rfl
      clear hcx hcy bA bB m1
      go_wp2_with fail
      refine bodyPost_ret (v := .agg #[.float .f64 (fop .quo cx (fl (ps.length : Int))), .float .f64 (fop .quo cy (fl (ps.length : Int)))]) (by simp [results, Tryz.results39, go_sem, p1, p2]) rfl ?_
      exact ⟨_, _, rfl, _, ext_of (show Kp w _ from (by repeat (first | (with_reducible exact Kp.refl _) | (with_reducible assumption) | (with_reducible apply Kp.ext) | (with_reducible apply Kp.alloc) | (with_reducible apply Kp.drew) | (with_reducible apply Kp.drewN) | (with_reducible refine Kp.setCell ?_ (by first | (dsimp only; omega) | (simp; omega) | (simp; done) | (simp [size_ext_eq]; omega)) _))))⟩

open Ieee in
theorem eq_inf {d : Nat} {q : Rat} (hd : IsV d q) : eqF d infW = false := by
  obtain ⟨_, s, m, e, h, _⟩ := hd
  have r1 : double.read infW = .infinity false := by decide +kernel
  have o1 : FloatKind.f64.format.order d infW = some .lt := by
    show (double.read d).order (double.read infW) = _
    rw [r1, h]; rfl
  unfold eqF
  rw [o1]
  rfl
/-- nought and a length -/
theorem lenV_add0 {y k : Nat} (hy : LenV y k) (hk : k ≤ 100) : FOk .add 0 y ∧ LenV (fop .add 0 y) (k + 1) := by
  obtain ⟨q, vy, hq, q0, q1⟩ := hy
  have e : ((0 : Int) : Rat) = 0 := rfl
  have hz : IsV 0 (0 : Rat) := zero_isV
  have pp := pw_one (16 + 2 * k)
  have p2 : pw (16 + 2 * (k + 1)) = 2 * pw (16 + 2 * k + 1) := by rw [← pw_succ]; congr 1
  have p3 := pw_succ (16 + 2 * k)
  by_cases c : q = 0
  · subst c
    obtain ⟨o, v⟩ := add_int (a := 0) (b := 0) zero_isV (by rw [e]; exact vy) (by decide)
    have e2 : ((0 + 0 : Int) : Rat) = 0 := rfl
    rw [e2] at v
    exact ⟨o, 0, v, .inl rfl, by decide +kernel, by grind⟩
  have hq2 : 7 / 8 - (k : Rat) * (1 / 1000) ≤ q := by rcases hq with h | h; exact absurd h c; exact h
  have hk0 := k_small (k := k) (by omega)
  have hkn := k_nn k
  have hM : Mag (0 + q) q := ⟨by grind, by grind⟩
  have hpq : q ≤ huge := by
    have := pw_huge (n := 16 + 2 * k) (by omega)
    grind
  obtain ⟨r, o, v, w1, w2⟩ := add_near hz vy hM hpq
  have es := eps_s
  have ts := tiny_s
  have m1 : q * eps ≤ q * (1 / 1000000) := Rat.mul_le_mul_of_nonneg_left es q0
  have k1 := k_succ k
  refine ⟨o, r, v, .inr ?_, ?_, ?_⟩
  · rw [k1]
    have h1 : (7 / 8 - (k : Rat) * (1 / 1000)) * (1 - 1 / 1000000) ≤ q * (1 - 1 / 1000000) := Rat.mul_le_mul_of_nonneg_right hq2 (by decide +kernel)
    grind
  · grind
  · rw [p2]; grind
theorem one_bd : IsV 4607182418800017408 (((1 : Int)) : Rat) := by
  rw [show (4607182418800017408 : Nat) = fl 1 by kernel_rfl]; exact fl_isV (by decide)
/-- a middle by its weight -/
theorem mid_one {c d : Nat} (hc : Bd c 300) (hd : Bd d 220) : FOk .mul c d ∧ FOk .add 0 (fop .mul c d) ∧ Bd (fop .add 0 (fop .mul c d)) 530 := by
  obtain ⟨o1, v1⟩ := bd_mul hc hd (by omega)
  obtain ⟨o2, v2⟩ := bd_add (n := 521) (Bd.int (a := 0) zero_isV (by exact Nat.zero_le _)) v1 (by omega)
  exact ⟨o1, o2, v2.mono (by omega)⟩
set_option maxRecDepth 100000 in
set_option maxHeartbeats 4000000 in
theorem mlsc_c (L off cap b c : Nat) (ps : List (Nat × Nat)) (hn : ps.length ≤ 100) (hpos : 1 ≤ ps.length) (w : World) (hL : L < w.heap.size) (hc : w.cell? ⟨L, off, none⟩ = some (.slice (some ⟨b, 0, none⟩) ps.length c)) (hb : b < w.heap.size) (hpt : PtsAt w b 0 ps) (x y : Nat → Int) (hi : IntPts ps x y) :
    Calls Tryz.prog 40 #[.slice (some ⟨L, off, none⟩) 1 cap] w (PtRet w) := by
  have HC := Lib.hid (fun w' (hk : Kp w w') => lsc_c b 0 c ps hn hpos w' (Nat.lt_of_lt_of_le hb hk.size) (hpt.kp hb hk) x y hi)
  clear hpt hi
  generalize ps.length = n at *
  go_enter Tryz.func40, Tryz.ntmps40
  go_wp2_with fail
  go_loopw [4, 5, 17] (fun s4 s5 s17 wr => Kp w wr ∧ NewPt w wr w.heap.size 0 0 ∧ ((s17 = .int .i64 0 ∧ s4 = .float .f64 0 ∧ s5 = .int .i64 0 ∧ NewPt w wr (w.heap.size + 1) 0 0) ∨ (s17 = .int .i64 1 ∧ s5 = .int .i64 1 ∧ ∃ d cx cy, s4 = .float .f64 d ∧ LenV d 101 ∧ NewPt w wr (w.heap.size + 1) cx cy ∧ Bd cx 530 ∧ Bd cy 530))) (fun _ _ s17 _ => 1 - (intOf s17).toNat)
  case atStart => exact ⟨(by repeat (first | (with_reducible exact Kp.refl _) | (with_reducible assumption) | (with_reducible apply Kp.ext) | (with_reducible apply Kp.alloc) | (with_reducible apply Kp.drew) | (with_reducible apply Kp.drewN) | (with_reducible refine Kp.setCell ?_ (by first | (dsimp only; omega) | (simp; omega) | (simp; done) | (simp [size_ext_eq]; omega)) _))), (by repeat (first | assumption | ((with_reducible refine NewPt.at ?_ _ _ _ ?_) <;> (first | (simp; done) | (simp; omega) | omega | (simp [size_ext_eq]; done) | (simp [size_ext_eq]; omega))) | (with_reducible apply NewPt.alloc) | (with_reducible apply NewPt.drew) | (with_reducible apply NewPt.drewN) | (with_reducible apply NewPt.ext) | (with_reducible exact NewPt.store (by assumption) _ _) | (with_reducible refine NewPt.other ?_ (by omega) _ _))), .inl ⟨rfl, rfl, rfl, (by repeat (first | assumption | ((with_reducible refine NewPt.at ?_ _ _ _ ?_) <;> (first | (simp; done) | (simp; omega) | omega | (simp [size_ext_eq]; done) | (simp [size_ext_eq]; omega))) | (with_reducible apply NewPt.alloc) | (with_reducible apply NewPt.drew) | (with_reducible apply NewPt.drewN) | (with_reducible apply NewPt.ext) | (with_reducible exact NewPt.store (by assumption) _ _) | (with_reducible refine NewPt.other ?_ (by omega) _ _)))⟩⟩
  case round =>
    obtain ⟨hkp, m1, ⟨rfl, rfl, rfl, m2⟩ | ⟨rfl, rfl, d, cx, cy, rfl, hd, m2, hcx, hcy⟩⟩ := hrel
    · obtain ⟨_, i1, p1, p2, p3, p4⟩ := id m1
      obtain ⟨_, i2, j1, j2, j3, j4⟩ := id m2
      have hLk : L < wr.heap.size := Nat.lt_of_lt_of_le hL hkp.size
      have hck := Kp.cell hkp hc hL
      go_wp2_with fail
      refine (HC.out _ hkp).mono ?_
      rintro e w1 ⟨cx, cy, d, rfl, hcx, hcy, hd, u, hu⟩
      have hk1 : Kp wr w1 := (by rw [hu]; exact Kp.ext (Kp.refl wr) u)
      clear hu
      have m1' := m1.kp hk1
      have m2' := m2.kp hk1
      obtain ⟨_, i1', p1', p2', p3', p4'⟩ := id m1'
      obtain ⟨_, i2', j1', j2', j3', j4'⟩ := id m2'
      obtain ⟨qd, vd, _⟩ := id hd
      have hinf := eq_inf vd
      obtain ⟨oa, hda⟩ := lenV_add0 hd (by decide)
      have hkp1 := hkp.trans hk1
      have z6 : w.heap.size < w1.heap.size := by omega
      have HDA := Lib.hid hda
      have HCX := Lib.hid hcx
      have HCY := Lib.hid hcy
      have Hd := Lib.hid hd
      rcases hd.cases (by decide) with hz | ⟨hz, q, vq, hfar, _⟩
      · obtain ⟨a1, a2, a3⟩ := mid_one hcx ((Bd.int (n := 220) one_bd (by exact Nat.one_le_two_pow)))
        obtain ⟨b1, b2, b3⟩ := mid_one hcy ((Bd.int (n := 220) one_bd (by exact Nat.one_le_two_pow)))
        clear hcx hcy hd hda vd
        go_wp2_with (go_at_call 53; (first | (with_reducible refine (Ret.at_ext (inf_c _)).mono ?_) | (with_reducible refine (inf_c _).mono ?_)); rintro e w' ⟨rfl, u, rfl⟩)
        refine ⟨⟨(by repeat (first | (with_reducible exact Kp.refl _) | (with_reducible assumption) | (with_reducible apply Kp.ext) | (with_reducible apply Kp.alloc) | (with_reducible apply Kp.drew) | (with_reducible apply Kp.drewN) | (with_reducible refine Kp.setCell ?_ (by first | (dsimp only; omega) | (simp; omega) | (simp; done) | (simp [size_ext_eq]; omega)) _))), (m1'.other (k := w.heap.size + 1) (by omega) _ _).kp (by repeat (first | (with_reducible exact Kp.refl _) | (with_reducible assumption) | (with_reducible apply Kp.ext) | (with_reducible apply Kp.alloc) | (with_reducible apply Kp.drew) | (with_reducible apply Kp.drewN) | (with_reducible refine Kp.setCell ?_ (by first | (dsimp only; omega) | (simp; omega) | (simp; done) | (simp [size_ext_eq]; omega)) _))), .inr ⟨rfl, rfl, _, _, _, rfl, HDA.out, (m2'.store _ _).kp (by repeat (first | (with_reducible exact Kp.refl _) | (with_reducible assumption) | (with_reducible apply Kp.ext) | (with_reducible apply Kp.alloc) | (with_reducible apply Kp.drew) | (with_reducible apply Kp.drewN) | (with_reducible refine Kp.setCell ?_ (by first | (dsimp only; omega) | (simp; omega) | (simp; done) | (simp [size_ext_eq]; omega)) _))), a3, b3⟩⟩, by decide⟩
      · obtain ⟨a1, a2, a3⟩ := mid_one hcx (hd.bd.mono (by decide))
        obtain ⟨b1, b2, b3⟩ := mid_one hcy (hd.bd.mono (by decide))
        clear hcx hcy hd hda vd vq hfar
        go_wp2_with (go_at_call 53; (first | (with_reducible refine (Ret.at_ext (inf_c _)).mono ?_) | (with_reducible refine (inf_c _).mono ?_)); rintro e w' ⟨rfl, u, rfl⟩)
        refine ⟨⟨(by repeat (first | (with_reducible exact Kp.refl _) | (with_reducible assumption) | (with_reducible apply Kp.ext) | (with_reducible apply Kp.alloc) | (with_reducible apply Kp.drew) | (with_reducible apply Kp.drewN) | (with_reducible refine Kp.setCell ?_ (by first | (dsimp only; omega) | (simp; omega) | (simp; done) | (simp [size_ext_eq]; omega)) _))), (m1'.other (k := w.heap.size + 1) (by omega) _ _).kp (by repeat (first | (with_reducible exact Kp.refl _) | (with_reducible assumption) | (with_reducible apply Kp.ext) | (with_reducible apply Kp.alloc) | (with_reducible apply Kp.drew) | (with_reducible apply Kp.drewN) | (with_reducible refine Kp.setCell ?_ (by first | (dsimp only; omega) | (simp; omega) | (simp; done) | (simp [size_ext_eq]; omega)) _))), .inr ⟨rfl, rfl, _, _, _, rfl, HDA.out, (m2'.store _ _).kp (by repeat (first | (with_reducible exact Kp.refl _) | (with_reducible assumption) | (with_reducible apply Kp.ext) | (with_reducible apply Kp.alloc) | (with_reducible apply Kp.drew) | (with_reducible apply Kp.drewN) | (with_reducible refine Kp.setCell ?_ (by first | (dsimp only; omega) | (simp; omega) | (simp; done) | (simp [size_ext_eq]; omega)) _))), a3, b3⟩⟩, by decide⟩
    · obtain ⟨_, i1, p1, p2, p3, p4⟩ := id m1
      obtain ⟨_, i2, j1, j2, j3, j4⟩ := id m2
      have hfl : ∀ n : Int, floatOfInt .f64 n = fl n := fun _ => rfl
      obtain ⟨qd, vd, _⟩ := id hd
      have hinf := eq_inf vd
      have z6 : w.heap.size < wr.heap.size := by omega
      have one_far : Far (((1 : Int)) : Rat) := .inr (by decide +kernel)
      rcases hd.cases (by decide) with hz | ⟨hz, q, vq, hfar, _⟩
      · obtain ⟨a1, a2⟩ := bd_quo hcx (fl_isV (n := 1) (by decide)) one_far (by omega)
        obtain ⟨b1, b2⟩ := bd_quo hcy (fl_isV (n := 1) (by decide)) one_far (by omega)
        clear hcx hcy hd vd m1 m2
        go_wp2_with (go_at_call 53; (first | (with_reducible refine (Ret.at_ext (inf_c _)).mono ?_) | (with_reducible refine (inf_c _).mono ?_)); rintro e w' ⟨rfl, u, rfl⟩)
        refine bodyPost_ret (v := .agg #[.float .f64 (fop .quo cx (fl 1)), .float .f64 (fop .quo cy (fl 1))]) (by simp [results, Tryz.results40, go_sem, p1, p2, i1, i2]) rfl ?_
        exact ⟨_, _, rfl, _, ext_of (show Kp w _ from (by repeat (first | (with_reducible exact Kp.refl _) | (with_reducible assumption) | (with_reducible apply Kp.ext) | (with_reducible apply Kp.alloc) | (with_reducible apply Kp.drew) | (with_reducible apply Kp.drewN) | (with_reducible refine Kp.setCell ?_ (by first | (dsimp only; omega) | (simp; omega) | (simp; done) | (simp [size_ext_eq]; omega)) _))))⟩
      · obtain ⟨a1, a2⟩ := bd_quo hcx vq hfar (by omega)
        obtain ⟨b1, b2⟩ := bd_quo hcy vq hfar (by omega)
        clear hcx hcy hd vd m1 m2 vq hfar
        go_wp2_with (go_at_call 53; (first | (with_reducible refine (Ret.at_ext (inf_c _)).mono ?_) | (with_reducible refine (inf_c _).mono ?_)); rintro e w' ⟨rfl, u, rfl⟩)
        refine bodyPost_ret (v := .agg #[.float .f64 (fop .quo cx d), .float .f64 (fop .quo cy d)]) (by simp [results, Tryz.results40, go_sem, p1, p2, i1, i2]) rfl ?_
        exact ⟨_, _, rfl, _, ext_of (show Kp w _ from (by repeat (first | (with_reducible exact Kp.refl _) | (with_reducible assumption) | (with_reducible apply Kp.ext) | (with_reducible apply Kp.alloc) | (with_reducible apply Kp.drew) | (with_reducible apply Kp.drewN) | (with_reducible refine Kp.setCell ?_ (by first | (dsimp only; omega) | (simp; omega) | (simp; done) | (simp [size_ext_eq]; omega)) _))))⟩
end Go.Proofs.YtohidpmkoehmcaaGreatDoor
