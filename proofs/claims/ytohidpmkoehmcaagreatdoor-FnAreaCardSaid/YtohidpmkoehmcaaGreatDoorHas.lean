/-
  spec.OnBorder, spec.Inside, spec.Has and planar.RingContains on whole numbers.
-/
import Derived.Test.YtohidpmkoehmcaaGreatDoorRayN
import Derived.Test.YtohidpmkoehmcaaGreatDoorRayS
import Derived.Test.YtohidpmkoehmcaaGreatDoorSimple
set_option linter.all false
namespace Go.Proofs.YtohidpmkoehmcaaGreatDoor
open PubFl Go.RowKit

attribute [local go_sem] cell_ext frozen_ext ext_setCell cell_store size_ext_eq lt_p0 lt_p1 lt_p2 lt_p3 lt_p4 lt_p5 lt_p6 lt_p7 lt_p8 lt_p9 lt_p10 lt_p11 lt_p12 lt_p13 lt_p14 lt_p15 lt_p16 lt_p17 lt_p18 lt_p19 lt_p20 lt_p21 lt_p22 lt_p23 lt_p24 lt_p25 lt_p26 lt_p27 lt_p28 lt_p29 lt_p30 lt_p31 lt_p32 lt_q1 lt_q2 lt_q3 lt_q4 lt_q5 lt_q6 lt_q7 lt_q8 lt_q9 lt_q10 lt_q11 lt_q12 lt_q13 lt_q14 lt_q15 lt_q16 lt_q17 lt_q18 lt_q19 lt_q20 lt_q21 lt_q22 lt_q23 lt_q24 lt_q25 lt_q26 lt_q27 lt_q28 lt_q29 lt_q30 lt_q31 lt_q32 run_fop run_store_float
attribute [local go_sem high] cmp_eql cmp_neq cmp_lss cmp_leq cmp_gtr cmp_geq

theorem ray_c {px py ax ay bx by' : Nat} {p a b : Int × Int} (hp : PtW px py p) (ha : PtW ax ay a) (hb : PtW bx by' b) {r1 r2 : Bool} (h1 : upB a b p = r1) (h2 : onSegI a b p = r2) (w : World) :
    Calls Tryz.prog 38 #[.agg #[.float .f64 px, .float .f64 py], .agg #[.float .f64 ax, .float .f64 ay], .agg #[.float .f64 bx, .float .f64 by']] w (Ret w (.tuple #[.bool r1, .bool r2])) := by
  subst h1 h2
  by_cases h : a.1 ≤ b.1
  · exact rayN hp ha hb h w
  · rw [upB_swap, on_swap]
    exact rayS hp hb ha (by omega) w

/-- points are whole -/
def IntW (ps : List (Nat × Nat)) (P : Nat → Int × Int) : Prop := ∀ (i : Nat) (h : i < ps.length), PtW (ps[i]'h).1 (ps[i]'h).2 (P i)
def borderB (P : Nat → Int × Int) (n : Nat) (p : Int × Int) : Bool := (List.range n).any fun i => onSegI (P i) (P (i + 1)) p
theorem border_no {P : Nat → Int × Int} {p : Int × Int} {n : Nat} (h : ∀ i, i < n → onSegI (P i) (P (i + 1)) p = false) : borderB P n p = false := by
  unfold borderB
  rw [List.any_eq_false]
  intro i hi
  rw [h i (List.mem_range.1 hi)]; decide
theorem border_yes {P : Nat → Int × Int} {p : Int × Int} {n k : Nat} (hk : k < n) (h : onSegI (P k) (P (k + 1)) p = true) : borderB P n p = true := by
  unfold borderB
  rw [List.any_eq_true]
  exact ⟨k, List.mem_range.2 hk, h⟩
def NoneTo (P : Nat → Int × Int) (p : Int × Int) (k : Nat) : Prop := ∀ i, i < k → onSegI (P i) (P (i + 1)) p = false
theorem NoneTo.succ {P : Nat → Int × Int} {p : Int × Int} {k : Nat} (h : NoneTo P p k) (hk : onSegI (P k) (P (k + 1)) p = false) : NoneTo P p (k + 1) := fun i hi => by
  by_cases c : i = k
  · subst c; exact hk
  · exact h i (by omega)

theorem crossP_swap (a b p : Int × Int) : crossP a b p = -crossP b a p := by unfold crossP crossI; grind
theorem right_up {a b p : Int × Int} (h : a.2 ≤ b.2) : rightI a b p = (decide (a.2 ≤ p.2) && (decide (p.2 < b.2) && decide (0 < crossP a b p))) := by
  unfold rightI
  by_cases c : b.2 ≤ p.2
  · rw [decide_eq_false (show ¬ p.2 < a.2 by omega), Bool.and_assoc]; simp
  · rw [decide_eq_false c, Bool.and_assoc]; simp
theorem right_down {a b p : Int × Int} (h : b.2 < a.2) : rightI a b p = (decide (b.2 ≤ p.2) && (decide (p.2 < a.2) && decide (0 < crossP b a p))) := by
  unfold rightI
  rw [show decide (crossP a b p < 0) = decide (0 < crossP b a p) from decide_eq_decide.2 (by rw [crossP_swap a b p]; omega)]
  by_cases c : a.2 ≤ p.2
  · rw [decide_eq_false (show ¬ p.2 < b.2 by omega), Bool.and_assoc, Bool.and_assoc]; simp
  · rw [decide_eq_false c]; simp [Bool.and_assoc]
theorem parTo_succ (f : Nat → Bool) (k : Nat) : parTo f (k + 1) = (parTo f k ^^ f k) := rfl

/-- a point is in a ring or on it -/
def hasI (P : Nat → Int × Int) (n : Nat) (p : Int × Int) : Bool := borderB P n p || parTo (fun i => rightI (P i) (P (i + 1)) p) n
def Beyond (P : Nat → Int × Int) (n : Nat) (p : Int × Int) : Prop := (∀ i, i ≤ n → p.1 < (P i).1) ∨ (∀ i, i ≤ n → (P i).1 < p.1) ∨ (∀ i, i ≤ n → p.2 < (P i).2) ∨ (∀ i, i ≤ n → (P i).2 < p.2)
theorem Beyond.none {P : Nat → Int × Int} {n : Nat} {p : Int × Int} (h : Beyond P n p) : NoneTo P p n := by
  intro i hi
  refine off_box ?_
  rcases h with h | h | h | h
  · have h1 := h i (by omega); have h2 := h (i + 1) (by omega); omega
  · have h1 := h i (by omega); have h2 := h (i + 1) (by omega); omega
  · have h1 := h i (by omega); have h2 := h (i + 1) (by omega); omega
  · have h1 := h i (by omega); have h2 := h (i + 1) (by omega); omega
theorem has_beyond {P : Nat → Int × Int} {n : Nat} {p : Int × Int} (hc : P n = P 0) (h : Beyond P n p) : hasI P n p = false := by
  unfold hasI
  rw [border_no h.none, ring_par P n hc p h.none, out_par P n hc p h]; rfl
theorem has_par {P : Nat → Int × Int} {n : Nat} {p : Int × Int} (hc : P n = P 0) (h : NoneTo P p n) : hasI P n p = parTo (fun i => upI (P i) (P (i + 1)) p) n := by
  unfold hasI
  rw [border_no h, ring_par P n hc p h]; rfl
theorem has_on {P : Nat → Int × Int} {n k : Nat} {p : Int × Int} (hk : k < n) (h : onSegI (P k) (P (k + 1)) p = true) : hasI P n p = true := by
  unfold hasI
  rw [border_yes hk h]; rfl
theorem up_same (a p : Int × Int) : upB a a p = false := by
  unfold upB upI
  by_cases c : a.1 ≤ p.1
  · rw [decide_eq_false (show ¬ p.1 < a.1 by omega)]; simp
  · rw [decide_eq_false c]; simp
theorem on_same {a b p : Int × Int} (h : onSegI a a p = true) : onSegI a b p = true := by
  unfold onSegI at h
  simp only [Bool.and_eq_true, decide_eq_true_eq] at h
  have e1 : p.1 = a.1 := by omega
  have e2 : p.2 = a.2 := by omega
  unfold onSegI crossI
  rw [e1, e2]
  simp
  omega

/-- a box around points -/
theorem bound_all {ps : List (Nat × Nat)} {x y : Nat → Int} (hi : IntPts ps x y) {x0 y0 : Nat} (h0 : IsV x0 (x 0)) (h1 : IsV y0 (y 0)) : ∀ k, k ≤ ps.length → ∃ a b c d, BxI (boundTo x0 y0 ps k) a b c d ∧ ∀ i, i < k → a ≤ x i ∧ x i ≤ c ∧ b ≤ y i ∧ y i ≤ d
  | 0, _ => ⟨x 0, y 0, x 0, y 0, ⟨h0, h1, h0, h1, Int.le_refl _, Int.le_refl _⟩, fun i hi => by omega⟩
  | k + 1, h => by
    obtain ⟨a, b, c, d, hk, hb⟩ := bound_all hi h0 h1 k (by omega)
    obtain ⟨v0, v1, _, _⟩ := hi k (by omega)
    rw [boundTo_succ _ _ _ _ (by omega)]
    refine ⟨_, _, _, _, hk.extend v0 v1, fun i hik => ?_⟩
    by_cases e : i = k
    · subst e; omega
    · have := hb i (by omega); omega
theorem IntW.pts {ps : List (Nat × Nat)} {P : Nat → Int × Int} (h : IntW ps P) : IntPts ps (fun i => (P i).1) (fun i => (P i).2) := fun i hi => ⟨(h i hi).x, (h i hi).y, (h i hi).bx, (h i hi).b_y⟩

set_option maxRecDepth 20000 in
set_option maxHeartbeats 4000000 in
theorem ringContains_c (g off cap : Nat) (ps : List (Nat × Nat)) (hn : ps.length ≤ 1000) (hpos : 2 ≤ ps.length) (w : World) (hg : g < w.heap.size) (hpt : PtsAt w g off ps) (P : Nat → Int × Int) (hi : IntW ps P) (hc : P (ps.length - 1) = P 0)
    (px py : Nat) (p : Int × Int) (hp : PtW px py p) :
    Calls Tryz.prog 27 #[.slice (some ⟨g, off, none⟩) ps.length cap, .agg #[.float .f64 px, .float .f64 py]] w (Ret w (.bool (hasI P (ps.length - 1) p))) := by
  obtain ⟨x0, y0, h0⟩ : ∃ x0 y0, ps[0]'(by omega) = (x0, y0) := ⟨_, _, rfl⟩
  obtain ⟨x1, y1, h1⟩ : ∃ x1 y1, ps[ps.length - 1]'(by omega) = (x1, y1) := ⟨_, _, rfl⟩
  have u0 := hi 0 (by omega)
  have u1 := hi (ps.length - 1) (by omega)
  obtain ⟨c0, c1⟩ := hpt 0 (by omega)
  obtain ⟨c2, c3⟩ := hpt (ps.length - 1) (by omega)
  rw [h0] at c0 c1 u0
  rw [h1] at c2 c3 u1
  rw [hc] at u1
  simp only [Nat.zero_mul, Nat.add_zero] at c0 c1
  obtain ⟨B, hB⟩ : ∃ B, boundTo x0 y0 ps ps.length = B := ⟨_, rfl⟩
  obtain ⟨A1, A2, A3, A4, hbx, hall⟩ := bound_all hi.pts u0.x u0.y ps.length (Nat.le_refl _)
  rw [hB] at hbx
  have hbd := Lib.hid (fun w' (hk : Kp w w') => ringBound_c g off cap ps hn (by omega) w' (Nat.lt_of_lt_of_le hg hk.size) (hpt.kp hg hk) _ _ hi.pts x0 y0 h0 B hB)
  obtain ⟨q1, q2, q3, q4⟩ := B
  have hout : hasB q1 q2 q3 q4 px py = false → hasI P (ps.length - 1) p = false := fun h => by
    refine has_beyond hc ?_
    unfold hasB at h
    rw [ltF_int hp.y hbx.ay, ltF_int hbx.b_y hp.y, ltF_int hp.x hbx.ax, ltF_int hbx.bx hp.x] at h
    by_cases k1 : p.2 < A2
    · exact .inr (.inr (.inl fun i hi => by have := hall i (by omega); omega))
    by_cases k2 : A4 < p.2
    · exact .inr (.inr (.inr fun i hi => by have := hall i (by omega); omega))
    by_cases k3 : p.1 < A1
    · exact .inl fun i hi => by have := hall i (by omega); omega
    by_cases k4 : A3 < p.1
    · exact .inr (.inl fun i hi => by have := hall i (by omega); omega)
    rw [decide_eq_false k1, decide_eq_false k2, decide_eq_false k3, decide_eq_false k4] at h
    cases h
  have hon : onSegI (P 0) (P 0) p = true → hasI P (ps.length - 1) p = true := fun h => has_on (k := 0) (by omega) (on_same h)
  obtain ⟨l, hl⟩ : ∃ l : Nat, ps.length = l + 1 := ⟨ps.length - 1, by omega⟩
  have hl2 : ps.length - 1 = l := by omega
  rw [hl2] at hout hon c2 c3 hc ⊢
  have Hpt := Lib.hid hpt
  have Hi := Lib.hid hi
  have Hout := Lib.hid hout
  have Hon := Lib.hid hon
  have Hc := Lib.hid hc
  have Hl := Lib.hid hl
  have hs1 : (ps.length : Int) - 1 = (l : Int) := by omega
  have hs2 : IntKind.i64.wrap ((ps.length : Int) - 1) = (l : Int) := by rw [hs1]; exact wrap_in _ (by omega) (by omega)
  have hs3 : (0 : Int) ≤ (l : Int) := by omega
  have hs4 : (l : Int) < (ps.length : Int) := by omega
  have hs5 : (0 : Int) < (ps.length : Int) := by omega
  have hs6 : IntKind.i64.wrap (l : Int) = (l : Int) := wrap_in _ (by omega) (by omega)
  clear hpt hi hout hon hc h0 h1 hB hbx hall hl hl2
  have hcn := fun w' => contains_c q1 q2 q3 q4 px py w'
  cases hh : hasB q1 q2 q3 q4 px py
  · have Hr := Lib.hid (Hout.out hh)
    rw [hh] at hcn
    have Hcn := Lib.hid hcn
    clear hcn hh
    go_enter Tryz.func27, Tryz.ntmps27
    go_wp2_with fail
    first | (with_reducible refine wp_region_ext_lit2 ?_ ?_ ?_) | refine wp_region_ext_lit ?_ ?_ ?_
    kernel_rfl
    kernel_rfl
    repeat (go_big_quiet_step (first | (go_at_call 36; with_reducible exact Ret.quiet (hbd.out _ (by repeat (first | (with_reducible exact Kp.refl _) | (with_reducible assumption) | (with_reducible apply Kp.ext) | (with_reducible apply Kp.alloc) | (with_reducible apply Kp.drew) | (with_reducible apply Kp.drewN) | (with_reducible refine Kp.setCell ?_ (by first | (dsimp only; omega) | (simp; omega) | (simp; done) | (simp [size_ext_eq]; omega)) _))))) | (go_at_call 37; with_reducible exact Ret.quiet (Hcn.out _))))
    refine wpQuiet_nil ?_
    rintro _ ⟨u, rfl⟩
    go_wp2_with fail
    go_ret
    exact Ret.mk (by rw [Hr.out]; rfl) (by repeat (first | (with_reducible exact Kp.refl _) | (with_reducible assumption) | (with_reducible apply Kp.ext) | (with_reducible apply Kp.alloc) | (with_reducible apply Kp.drew) | (with_reducible apply Kp.drewN) | (with_reducible refine Kp.setCell ?_ (by first | (dsimp only; omega) | (simp; omega) | (simp; done) | (simp [size_ext_eq]; omega)) _)))
  · rw [hh] at hcn
    have Hcn := Lib.hid hcn
    clear hcn hh Hout
    cases hs : onSegI (P 0) (P 0) p
    · have hr0 := fun w => ray_c hp u0 u1 (up_same (P 0) p) hs w
      have Hr0 := Lib.hid hr0
      clear hr0 u0 u1 hs Hon
      go_enter Tryz.func27, Tryz.ntmps27
      go_wp2_with fail
      first | (with_reducible refine wp_region_ext_lit2 ?_ ?_ ?_) | refine wp_region_ext_lit ?_ ?_ ?_
      kernel_rfl
      kernel_rfl
      repeat (go_big_quiet_step (first | (go_at_call 36; with_reducible exact Ret.quiet (hbd.out _ (by repeat (first | (with_reducible exact Kp.refl _) | (with_reducible assumption) | (with_reducible apply Kp.ext) | (with_reducible apply Kp.alloc) | (with_reducible apply Kp.drew) | (with_reducible apply Kp.drewN) | (with_reducible refine Kp.setCell ?_ (by first | (dsimp only; omega) | (simp; omega) | (simp; done) | (simp [size_ext_eq]; omega)) _))))) | (go_at_call 37; with_reducible exact Ret.quiet (Hcn.out _))))
      refine wpQuiet_nil ?_
      rintro _ ⟨u, rfl⟩
      go_wp2_with fail
      first | (with_reducible refine wp_region_ext_lit2 ?_ ?_ ?_) | refine wp_region_ext_lit ?_ ?_ ?_
      kernel_rfl
      kernel_rfl
      repeat (go_big_quiet_step ((go_at_call 38; with_reducible exact Ret.quiet (Hr0.out _))))
      refine wpQuiet_nil ?_
      rintro _ ⟨u, rfl⟩
      go_wp2_with fail
      clear c0 c1 c2 c3
      go_loopw [5, 7] (fun s5 s7 wr => ∃ k : Nat, k ≤ l ∧ s5 = .bool (parTo (fun i => upI (P i) (P (i + 1)) p) k) ∧ s7 = .int .i64 k ∧ Kp w wr ∧ NewPt w wr w.heap.size px py ∧ NoneTo P p k) (fun _ s7 _ => l - (intOf s7).toNat)
      case atStart => exact ⟨0, by omega, rfl, rfl, (by repeat (first | (with_reducible exact Kp.refl _) | (with_reducible assumption) | (with_reducible apply Kp.ext) | (with_reducible apply Kp.alloc) | (with_reducible apply Kp.drew) | (with_reducible apply Kp.drewN) | (with_reducible refine Kp.setCell ?_ (by first | (dsimp only; omega) | (simp; omega) | (simp; done) | (simp [size_ext_eq]; omega)) _))), (by repeat (first | assumption | ((with_reducible refine NewPt.at ?_ _ _ _ ?_) <;> (first | (simp; done) | (simp; omega) | omega | (simp [size_ext_eq]; done) | (simp [size_ext_eq]; omega))) | (with_reducible apply NewPt.alloc) | (with_reducible apply NewPt.drew) | (with_reducible apply NewPt.drewN) | (with_reducible apply NewPt.ext) | (with_reducible exact NewPt.store (by assumption) _ _) | (with_reducible refine NewPt.other ?_ (by omega) _ _))), fun i hi => by omega⟩
      case round =>
        obtain ⟨k, hk4, rfl, rfl, hkp, m, hno⟩ := hrel
        obtain ⟨_, i1, p0, p1, z0, z1⟩ := id m
        have Hno := Lib.hid hno
        clear hno
        have hgk : g < wr.heap.size := Nat.lt_of_lt_of_le hg hkp.size
        by_cases hlt : k < l
        · have hl3 : k + 1 < ps.length := by omega
          obtain ⟨e0, e1⟩ := Hpt.out.kp hg hkp k (by omega)
          obtain ⟨f0, f1⟩ := Hpt.out.kp hg hkp (k + 1) hl3
          have v0 := Hi.out k (by omega)
          have v1 := Hi.out (k + 1) hl3
          have hsucc := parTo_succ (fun i => upI (P i) (P (i + 1)) p) k
          obtain ⟨⟨qx, qy⟩, hq⟩ : ∃ q, ps[k]'(by omega) = q := ⟨_, rfl⟩
          obtain ⟨⟨rx, ry⟩, hq'⟩ : ∃ q, ps[k + 1]'hl3 = q := ⟨_, rfl⟩
          rw [hq] at e0 e1 v0
          rw [hq'] at f0 f1 v1
          have hk0 : (0 : Int) ≤ (k : Int) := by omega
          have hk1 : (k : Int) < (ps.length : Int) := by omega
          have hk2 : (0 : Int) ≤ (k : Int) + 1 := by omega
          have hk3 : ((k : Int) + 1 < (ps.length : Int)) := by omega
          have hk5 : ((k : Int) + 1).toNat = k + 1 := by omega
          have hk6 : IntKind.i64.wrap ((k : Int) + 1) = (k : Int) + 1 := wrap_in _ (by omega) (by omega)
          clear hq hq'
          generalize hpar : parTo (fun i => upI (P i) (P (i + 1)) p) k = par at *
          clear hpar
          cases c : onSegI (P k) (P (k + 1)) p
          · have Hn := Lib.hid (Hno.out.succ c)
            cases cu : upI (P k) (P (k + 1)) p
            · have hu : upB (P k) (P (k + 1)) p = false := by unfold upB; rw [cu]; rfl
              rw [cu] at hsucc
              have Hs := Lib.hid hsucc
              have hray := Lib.hid (fun w => ray_c hp v0 v1 hu c w)
              clear hsucc v0 v1 hu c cu
              go_wp2_with fail
              first | (with_reducible refine wp_region_ext_lit2 ?_ ?_ ?_) | refine wp_region_ext_lit ?_ ?_ ?_
              kernel_rfl
              kernel_rfl
              repeat (go_big_quiet_step ((go_at_call 38; with_reducible exact Ret.quiet (hray.out _))))
              refine wpQuiet_nil ?_
              rintro _ ⟨u, rfl⟩
              go_wp2_with fail
              go_roundw
              case rel => exact ⟨k + 1, by omega, by rw [Hs.out]; simp, by go_num, (by repeat (first | (with_reducible exact Kp.refl _) | (with_reducible assumption) | (with_reducible apply Kp.ext) | (with_reducible apply Kp.alloc) | (with_reducible apply Kp.drew) | (with_reducible apply Kp.drewN) | (with_reducible refine Kp.setCell ?_ (by first | (dsimp only; omega) | (simp; omega) | (simp; done) | (simp [size_ext_eq]; omega)) _))), m.ext _, Hn.out⟩
              case measure => simp [intOf]; omega
            · have hu : upB (P k) (P (k + 1)) p = true := by unfold upB; rw [cu, c]; rfl
              rw [cu] at hsucc
              have Hs := Lib.hid hsucc
              have hray := Lib.hid (fun w => ray_c hp v0 v1 hu c w)
              clear hsucc v0 v1 hu c cu
              go_wp2_with fail
              first | (with_reducible refine wp_region_ext_lit2 ?_ ?_ ?_) | refine wp_region_ext_lit ?_ ?_ ?_
              kernel_rfl
              kernel_rfl
              repeat (go_big_quiet_step ((go_at_call 38; with_reducible exact Ret.quiet (hray.out _))))
              refine wpQuiet_nil ?_
              rintro _ ⟨u, rfl⟩
              go_wp2_with fail
              go_roundw
              case rel => exact ⟨k + 1, by omega, by rw [Hs.out]; simp, by go_num, (by repeat (first | (with_reducible exact Kp.refl _) | (with_reducible assumption) | (with_reducible apply Kp.ext) | (with_reducible apply Kp.alloc) | (with_reducible apply Kp.drew) | (with_reducible apply Kp.drewN) | (with_reducible refine Kp.setCell ?_ (by first | (dsimp only; omega) | (simp; omega) | (simp; done) | (simp [size_ext_eq]; omega)) _))), m.ext _, Hn.out⟩
              case measure => simp [intOf]; omega
          · have Hr := Lib.hid (has_on hlt c)
            have hu : upB (P k) (P (k + 1)) p = false := by unfold upB; rw [c]; simp
            have hray := Lib.hid (fun w => ray_c hp v0 v1 hu c w)
            clear hsucc v0 v1 hu c
            go_wp2_with fail
            first | (with_reducible refine wp_region_ext_lit2 ?_ ?_ ?_) | refine wp_region_ext_lit ?_ ?_ ?_
            kernel_rfl
            kernel_rfl
            repeat (go_big_quiet_step ((go_at_call 38; with_reducible exact Ret.quiet (hray.out _))))
            refine wpQuiet_nil ?_
            rintro _ ⟨u, rfl⟩
            go_wp2_with fail
            go_ret
            exact Ret.mk (by rw [Hr.out]; rfl) (by repeat (first | (with_reducible exact Kp.refl _) | (with_reducible assumption) | (with_reducible apply Kp.ext) | (with_reducible apply Kp.alloc) | (with_reducible apply Kp.drew) | (with_reducible apply Kp.drewN) | (with_reducible refine Kp.setCell ?_ (by first | (dsimp only; omega) | (simp; omega) | (simp; done) | (simp [size_ext_eq]; omega)) _)))
        · obtain rfl : k = l := by omega
          have Hr := Lib.hid (has_par Hc.out Hno.out)
          go_wp2_with fail
          go_ret
          exact Ret.mk (by rw [Hr.out]; rfl) (by repeat (first | (with_reducible exact Kp.refl _) | (with_reducible assumption) | (with_reducible apply Kp.ext) | (with_reducible apply Kp.alloc) | (with_reducible apply Kp.drew) | (with_reducible apply Kp.drewN) | (with_reducible refine Kp.setCell ?_ (by first | (dsimp only; omega) | (simp; omega) | (simp; done) | (simp [size_ext_eq]; omega)) _)))
    · have Hr := Lib.hid (Hon.out hs)
      have hr0 := fun w => ray_c hp u0 u1 (up_same (P 0) p) hs w
      have Hr0 := Lib.hid hr0
      clear hr0 u0 u1 hs Hon
      go_enter Tryz.func27, Tryz.ntmps27
      go_wp2_with fail
      first | (with_reducible refine wp_region_ext_lit2 ?_ ?_ ?_) | refine wp_region_ext_lit ?_ ?_ ?_
      kernel_rfl
      kernel_rfl
      repeat (go_big_quiet_step (first | (go_at_call 36; with_reducible exact Ret.quiet (hbd.out _ (by repeat (first | (with_reducible exact Kp.refl _) | (with_reducible assumption) | (with_reducible apply Kp.ext) | (with_reducible apply Kp.alloc) | (with_reducible apply Kp.drew) | (with_reducible apply Kp.drewN) | (with_reducible refine Kp.setCell ?_ (by first | (dsimp only; omega) | (simp; omega) | (simp; done) | (simp [size_ext_eq]; omega)) _))))) | (go_at_call 37; with_reducible exact Ret.quiet (Hcn.out _))))
      refine wpQuiet_nil ?_
      rintro _ ⟨u, rfl⟩
      go_wp2_with fail
      first | (with_reducible refine wp_region_ext_lit2 ?_ ?_ ?_) | refine wp_region_ext_lit ?_ ?_ ?_
      kernel_rfl
      kernel_rfl
      repeat (go_big_quiet_step ((go_at_call 38; with_reducible exact Ret.quiet (Hr0.out _))))
      refine wpQuiet_nil ?_
      rintro _ ⟨u, rfl⟩
      go_wp2_with fail
      go_ret
      exact Ret.mk (by rw [Hr.out]; rfl) (by repeat (first | (with_reducible exact Kp.refl _) | (with_reducible assumption) | (with_reducible apply Kp.ext) | (with_reducible apply Kp.alloc) | (with_reducible apply Kp.drew) | (with_reducible apply Kp.drewN) | (with_reducible refine Kp.setCell ?_ (by first | (dsimp only; omega) | (simp; omega) | (simp; done) | (simp [size_ext_eq]; omega)) _)))
end Go.Proofs.YtohidpmkoehmcaaGreatDoor
