/-
  laws.simple, walked; what Visvalingam's rule keeps, counted.
-/
import Derived.Test.YtglopopdmkgooaaMPart
namespace Go.Proofs.Ytglopopdmkgooaa
open PubFl Go.RowKit PubVis

attribute [local go_sem] cell_ext frozen_ext ext_setCell cell_store size_ext_eq lt_p0 lt_p1 lt_p2 lt_p3 lt_p4 lt_p5 lt_p6 lt_p7 lt_p8 lt_p9 lt_p10 lt_p11 lt_p12 lt_p13 lt_p14 lt_p15 lt_p16 lt_p17 lt_p18 lt_p19 lt_p20 lt_p21 lt_p22 lt_p23 lt_p24 lt_p25 lt_p26 lt_p27 lt_p28 lt_p29 lt_p30 lt_p31 lt_p32 lt_q1 lt_q2 lt_q3 lt_q4 lt_q5 lt_q6 lt_q7 lt_q8 lt_q9 lt_q10 lt_q11 lt_q12 lt_q13 lt_q14 lt_q15 lt_q16 lt_q17 lt_q18 lt_q19 lt_q20 lt_q21 lt_q22 lt_q23 lt_q24 lt_q25 lt_q26 lt_q27 lt_q28 lt_q29 lt_q30 lt_q31 lt_q32 run_fop run_store_float
attribute [local go_sem high] cmp_eql cmp_neq cmp_lss cmp_leq cmp_gtr cmp_geq

theorem visKeep_len {ps out : List (Nat × Nat)} {tri : Nat → Nat → Nat → Int} {keep : Nat} (T : TriH ps tri) (h2 : 2 ≤ ps.length) (hk : 2 ≤ keep) (h : VisOut ps tri infK keep out) : out.length = min keep ps.length := by
  obtain ⟨L, hr, rfl⟩ := h
  rw [List.length_map, kept_length]
  have hle := cnt_le L ps.length
  have hge := hr.ge
  have h2c := cnt_two_le h2 hr.l0 hr.ln
  rcases hr.fin with h | h
  · exact h
  · by_cases h3 : 3 ≤ cnt L ps.length
    · obtain ⟨a, q, c, h4, h5, h6, h7, h8, h9, h10, h11⟩ := kept_mid h3
      have := h a q c h4 h5 h6 h7 h8 h9 h10 h11
      have := (T.t a q c (by omega) (by omega) h9).2.2.2
      omega
    · omega
/-- the small line of the law -/
def sl3 : List (Nat × Nat) := [(0, 0), (4607182418800017408, 0), (4611686018427387904, 0)]
theorem sl3_line : LineI sl3 (fun i => (i : Int)) (fun _ => 0) := by
  have v0 := zero_isV
  have v1 : IsV 4607182418800017408 ((1 : Int) : Rat) := one_isV
  have v2 : IsV 4611686018427387904 ((2 : Int) : Rat) := by
    rw [show (4611686018427387904 : Nat) = fl 2 by kernel_rfl]; exact fl_isV (by decide)
  refine ⟨fun i h => ?_, fun i h => ?_, fun i j h1 h2 hne h => ?_⟩
  · match i, h with
    | 0, _ => exact ⟨v0, v0⟩
    | 1, _ => exact ⟨v1, v0⟩
    | 2, _ => exact ⟨v2, v0⟩
    | i + 3, h => exact absurd (show i + 3 < 3 from h) (by omega)
  · have : i < 3 := h
    show (-1000 ≤ (i : Int) ∧ (i : Int) ≤ 1000) ∧ (-1000 ≤ (0 : Int) ∧ (0 : Int) ≤ 1000)
    omega
  · omega
theorem sl3_near {D : Nat → Nat → Nat → Nat} {q : Nat → Nat → Nat → Rat} (F : SegFun sl3 (fun i => (i : Int)) (fun _ => 0) D q) : q 0 2 1 ≤ ((1 * 1 : Int) : Rat) := by
  obtain ⟨_, n⟩ := F.v 0 2 1 (by decide) (by decide) (by decide)
  obtain ⟨A, hX, X0, X8, ⟨A1, A2⟩, _, s0, _⟩ := seg_far n (by decide) (by decide) (by decide) (by decide) (by decide) (by decide) (by decide)
  unfold Dist2 at hX
  rw [if_neg (by decide), if_neg (by decide)] at hX
  have e1 : ((((((2 : Nat) : Int)) - (((0 : Nat) : Int))) * ((((2 : Nat) : Int)) - (((0 : Nat) : Int))) + (0 - 0) * (0 - 0) : Int) : Rat) = 4 := by decide +kernel
  have e2 : ((crossI (((0 : Nat) : Int)) 0 (((2 : Nat) : Int)) 0 (((1 : Nat) : Int)) 0 * crossI (((0 : Nat) : Int)) 0 (((2 : Nat) : Int)) 0 (((1 : Nat) : Int)) 0 : Int) : Rat) = 0 := by decide +kernel
  have e3 : ((1 * 1 : Int) : Rat) = 1 := by decide +kernel
  rw [e1, e2] at hX
  rw [e3]
  grind
theorem sl3_dp {D : Nat → Nat → Nat → Nat} {q : Nat → Nat → Nat → Rat} (F : SegFun sl3 (fun i => (i : Int)) (fun _ => 0) D q) {out : List (Nat × Nat)} (h : DpOut sl3 (fun a b k => q a b k ≤ ((1 * 1 : Int) : Rat)) out) : out.length = 2 := by
  obtain ⟨K, hr, rfl⟩ := h
  rw [List.length_map, kept_length]
  have h1 : K 1 = false := by
    cases c : K 1
    · rfl
    · rcases hr.why 1 c with h | h | ⟨s, e, h1, h2, h3, h4⟩
      · omega
      · exact absurd h (by decide)
      · have h3 : e < 3 := h3
        obtain rfl : s = 0 := by omega
        obtain rfl : e = 2 := by omega
        exact absurd (sl3_near F) h4
  have h0 := hr.k0
  have h2 : K 2 = true := hr.kn
  show cnt K 3 = 2
  show (((0 + if K 0 = true then 1 else 0) + if K 1 = true then 1 else 0) + if K 2 = true then 1 else 0) = 2
  rw [h0, h1, h2]; rfl
theorem sl3_at (w : World) (g : Nat) (e : TypeId) (hg : g = w.heap.size) : PtsAt (w.alloc (.cells #[.float .f64 0, .float .f64 0, .float .f64 4607182418800017408, .float .f64 0, .float .f64 4611686018427387904, .float .f64 0] e)) g 0 sl3 := by
  subst hg
  intro i hi
  match i, hi with
  | 0, _ => exact ⟨by simp [sl3], by simp [sl3]⟩
  | 1, _ => exact ⟨by simp [sl3], by simp [sl3]⟩
  | 2, _ => exact ⟨by simp [sl3], by simp [sl3]⟩
  | i + 3, h => exact absurd (show i + 3 < 3 from h) (by omega)
def sl3Obj (e : TypeId) : Obj := .cells #[.float .f64 0, .float .f64 0, .float .f64 4607182418800017408, .float .f64 0, .float .f64 4611686018427387904, .float .f64 0] e
theorem sl3_in (w : World) (e : TypeId) : PtsIn (w.alloc (.cells #[.float .f64 0, .float .f64 0, .float .f64 4607182418800017408, .float .f64 0, .float .f64 4611686018427387904, .float .f64 0] e)) (some ⟨w.heap.size, 0, none⟩) sl3 := .inr ⟨_, _, rfl, by simp, sl3_at _ _ _ rfl⟩
theorem sl3_in_ext (w u : World) (e : TypeId) : PtsIn (ext (w.alloc (.cells #[.float .f64 0, .float .f64 0, .float .f64 4607182418800017408, .float .f64 0, .float .f64 4611686018427387904, .float .f64 0] e)) u) (some ⟨w.heap.size, 0, none⟩) sl3 := (sl3_in w e).kp ((Kp.refl _).ext u)
theorem RetP'.out {w : World} {e : TypeId} {P : List (Nat × Nat) → Prop} {en : Ending} {w' : World} (h : RetP' w e P en w') : ∃ out a cap u, P out ∧ en = .returned (.slice a out.length cap) ∧ w' = ext w u ∧ PtsIn w' a out ∧ PtsNew w w' e (.slice a out.length cap) out := by
  obtain ⟨out, hP, v, u, he, hu, hpn⟩ := h
  obtain ⟨a, cap, rfl, hin⟩ := hpn.in
  exact ⟨out, a, cap, u, hP, he, hu, hin, hpn⟩

theorem peucker3_c (a : Option Addr) (cap : Nat) (w : World) (hs : PtsIn w a sl3) : Calls Try.prog 11 #[.slice a 3 cap, .float .f64 4607182418800017408] w (fun e w' => ∃ b c u, e = .returned (.slice b 2 c) ∧ w' = ext w u) := by
  obtain ⟨D, q, F⟩ := sl3_line.seg
  have hone : IsV 4607182418800017408 ((1 : Int) : Rat) := one_isV
  obtain ⟨⟨o1, _⟩, v1, _⟩ := most_t hone (by decide) (by decide)
  refine (peucker_c a cap 4607182418800017408 sl3 _ _ D q _ F o1 v1 (by decide +kernel) (by decide) (by decide) w hs).mono fun e w' h => ?_
  obtain ⟨out, b, c, u, hP, he, hu, _⟩ := h.out
  exact ⟨b, c, u, by rw [he, sl3_dp F hP], hu⟩
theorem keep3_c (a : Option Addr) (cap : Nat) (w : World) (hs : PtsIn w a sl3) : Calls Try.prog 9 #[.slice a 3 cap, .int .i64 2] w (fun e w' => ∃ b c u, e = .returned (.slice b 2 c) ∧ w' = ext w u) := by
  refine (keepByAreas_c a cap 2 sl3 _ (Nat.le_refl 2) sl3_line.tri (by decide) (by decide) w hs).mono fun e w' h => ?_
  obtain ⟨out, b, c, u, hP, he, hu, _⟩ := h.out
  exact ⟨b, c, u, by rw [he, visKeep_len sl3_line.tri (by decide) (Nat.le_refl 2) hP]; rfl, hu⟩

set_option maxRecDepth 20000 in
set_option maxHeartbeats 1000000 in
theorem simple_c (w : World) : Calls Try.prog 8 #[] w (Ret w (.bool true)) := by
  go_enter Try.func8, Try.ntmps8
  go_wp2_with (first | (go_at_call 11; (with_reducible refine (peucker3_c _ _ _ (sl3_in _ _)).mono ?_); rintro e w1 ⟨b, c, u, rfl, rfl⟩) | (go_at_call 9; (with_reducible refine (keep3_c _ _ _ (sl3_in_ext _ _ _)).mono ?_); rintro e w1 ⟨b', c', u', rfl, rfl⟩))
  go_ret
  exact Ret.mk rfl (by repeat (first | (with_reducible exact Kp.refl _) | (with_reducible assumption) | (with_reducible apply Kp.ext) | (with_reducible apply Kp.alloc) | (with_reducible apply Kp.drew) | (with_reducible apply Kp.drewN) | (with_reducible refine Kp.setCell ?_ (by first | (dsimp only; omega) | (simp; omega) | (simp; done) | (simp [size_ext_eq]; omega)) _)))
end Go.Proofs.Ytglopopdmkgooaa
