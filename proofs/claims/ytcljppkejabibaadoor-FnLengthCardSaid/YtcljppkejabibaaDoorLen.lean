/-
  The length of a line along the axes: orblength.lineStringLength, impl.Length of a line.
-/
import Derived.Test.YtcljppkejabibaaDoorNearest2
import Derived.Test.YtcljppkejabibaaDoorLawRingArea
namespace Go.Proofs.YtcljppkejabibaaDoor
open PubFl Go.RowKit

attribute [local go_sem] cell_ext frozen_ext ext_setCell cell_store size_ext_eq lt_p0 lt_p1 lt_p2 lt_p3 lt_p4 lt_p5 lt_p6 lt_p7 lt_p8 lt_p9 lt_p10 lt_p11 lt_p12 lt_p13 lt_p14 lt_p15 lt_p16 lt_p17 lt_p18 lt_p19 lt_p20 lt_p21 lt_p22 lt_p23 lt_p24 lt_p25 lt_p26 lt_p27 lt_p28 lt_p29 lt_p30 lt_p31 lt_p32 lt_q1 lt_q2 lt_q3 lt_q4 lt_q5 lt_q6 lt_q7 lt_q8 lt_q9 lt_q10 lt_q11 lt_q12 lt_q13 lt_q14 lt_q15 lt_q16 lt_q17 lt_q18 lt_q19 lt_q20 lt_q21 lt_q22 lt_q23 lt_q24 lt_q25 lt_q26 lt_q27 lt_q28 lt_q29 lt_q30 lt_q31 lt_q32 run_fop run_store_float
attribute [local go_sem high] cmp_eql cmp_neq cmp_lss cmp_leq cmp_gtr cmp_geq

def lenT (x y : Nat → Int) (i : Nat) : Int := ((x (i + 1) - x i).natAbs : Int) + ((y (i + 1) - y i).natAbs : Int)
/-- each step goes along an axis -/
def AxisTo (x y : Nat → Int) (k : Nat) : Prop := ∀ i, i < k → x (i + 1) = x i ∨ y (i + 1) = y i

theorem axis_dist {ax ay bx by' : Nat} {a b c d : Int} (h1 : IsV ax a) (h2 : IsV ay b) (h3 : IsV bx c) (h4 : IsV by' d) (b1 : -1000 ≤ a ∧ a ≤ 1000) (b2 : -1000 ≤ b ∧ b ≤ 1000) (b3 : -1000 ≤ c ∧ c ≤ 1000) (b4 : -1000 ≤ d ∧ d ≤ 1000) (hax : a = c ∨ b = d) :
    DsqOk ax ay bx by' ∧ SOk (dsqF ax ay bx by') ∧ IsV (sqrtF (dsqF ax ay bx by')) ((((a - c).natAbs : Int) + ((b - d).natAbs : Int) : Int) : Rat) := by
  obtain ⟨ok, v⟩ := dsq_int h1 h2 h3 h4 (by omega) (by omega) (by omega) (by omega)
  have hp : (a - c) * (a - c) + (b - d) * (b - d) = (((a - c).natAbs : Int) + ((b - d).natAbs : Int)) * (((a - c).natAbs : Int) + ((b - d).natAbs : Int)) := by
    have e1 : ((a - c).natAbs : Int) * ((a - c).natAbs : Int) = (a - c) * (a - c) := Int.natAbs_mul_self' _
    have e2 : ((b - d).natAbs : Int) * ((b - d).natAbs : Int) = (b - d) * (b - d) := Int.natAbs_mul_self' _
    rcases hax with h | h
    · rw [show a - c = 0 by omega]
      simp only [Int.natAbs_zero, Int.mul_zero, Int.zero_add]
      have e0 : ((0 : Nat) : Int) = 0 := rfl
      rw [e0, Int.zero_add, e2]
    · rw [show b - d = 0 by omega]
      simp only [Int.natAbs_zero, Int.mul_zero, Int.add_zero]
      have e0 : ((0 : Nat) : Int) = 0 := rfl
      rw [e0, Int.add_zero, e1]
  rw [hp] at v
  obtain ⟨so, vs⟩ := sqrtF_exact (v := ((((a - c).natAbs : Int) + ((b - d).natAbs : Int) : Int) : Rat)) v (int_le (a := 0) (b := ((a - c).natAbs : Int) + ((b - d).natAbs : Int)) (by omega)) (by rw [Rat.intCast_mul]) (few_int (by omega))
  exact ⟨ok, so, vs⟩

def LenRet (w : World) (v : Int) (e : Ending) (w' : World) : Prop := ∃ s, e = .returned (.float .f64 s) ∧ IsV s (v : Rat) ∧ ∃ u, w' = ext w u

set_option maxRecDepth 20000 in
set_option maxHeartbeats 1000000 in
theorem lineLen_c (a : Option Addr) (cap : Nat) (ps : List (Nat × Nat)) (hn : ps.length ≤ 1000) (w : World) (hs : PtsIn w a ps) (x y : Nat → Int) (hi : IntPts ps x y) (hax : AxisTo x y (ps.length - 1)) :
    Calls Tryd.prog 75 #[.slice a ps.length cap, .func (.func 40) #[] #[]] w (LenRet w (sumTo (lenT x y) (ps.length - 1))) := by
  have Hs := Lib.hid hs
  have Hi := Lib.hid hi
  have Hax := Lib.hid hax
  clear hs hi hax
  go_enter Tryd.func75, Tryd.ntmps75
  go_wp2_with fail
  go_loopw [5, 6] (fun s5 s6 wr => ∃ (k s : Nat), (k = 0 ∨ k + 1 ≤ ps.length) ∧ s5 = .float .f64 s ∧ s6 = .int .i64 ((k : Int) + 1) ∧ IsV s (sumTo (lenT x y) k : Int) ∧ Kp w wr) (fun _ s6 _ => ps.length - (intOf s6).toNat)
  case atStart => exact ⟨0, 0, .inl rfl, rfl, rfl, zero_isV, (by repeat (first | (with_reducible exact Kp.refl _) | (with_reducible assumption) | (with_reducible apply Kp.ext) | (with_reducible apply Kp.alloc) | (with_reducible apply Kp.drew) | (with_reducible apply Kp.drewN) | (with_reducible refine Kp.setCell ?_ (by first | (dsimp only; omega) | (simp; omega) | (simp; done) | (simp [size_ext_eq]; omega)) _)))⟩
  case round =>
    obtain ⟨k, s, hkn, rfl, rfl, hsv, hkp⟩ := hrel
    by_cases hlt : k + 1 < ps.length
    · obtain ⟨b, off, rfl, hb, hpt⟩ := Hs.out.cells (by omega)
      obtain ⟨e0, e1⟩ := hpt.kp hb hkp k (by omega)
      obtain ⟨f0, f1⟩ := hpt.kp hb hkp (k + 1) hlt
      obtain ⟨v0, v1, c1, c2⟩ := Hi.out k (by omega)
      obtain ⟨v2, v3, c3, c4⟩ := Hi.out (k + 1) hlt
      have hsum := sumTo_abs (t := lenT x y) (m := 4000) (n := k) fun i hik => by
        obtain ⟨_, _, d1, d2⟩ := Hi.out i (by omega)
        obtain ⟨_, _, d3, d4⟩ := Hi.out (i + 1) (by omega)
        unfold lenT; omega
      have hstep : sumTo (lenT x y) (k + 1) = sumTo (lenT x y) k + (((x (k + 1) - x k).natAbs : Int) + ((y (k + 1) - y k).natAbs : Int)) := rfl
      obtain ⟨ok, so, vd⟩ := axis_dist v2 v3 v0 v1 (by omega) (by omega) (by omega) (by omega) (Hax.out k (by omega))
      have hk1000 : (k : Int) ≤ 1000 := by omega
      obtain ⟨o8, n8⟩ := add_int hsv vd (by omega)
      rw [← hstep] at n8
      obtain ⟨⟨px, py⟩, hq⟩ : ∃ q, ps[k]'(by omega) = q := ⟨_, rfl⟩
      obtain ⟨⟨qx, qy⟩, hq'⟩ : ∃ q, ps[k + 1]'hlt = q := ⟨_, rfl⟩
      simp only [hq, hq'] at e0 e1 f0 f1 ok so o8 n8
      have hbk : b < wr.heap.size := Nat.lt_of_lt_of_le hb hkp.size
      have hw2 : IntKind.i64.wrap (k : Int) = (k : Int) := wrap_in _ (by omega) (by omega)
      have hk0 : (0 : Int) ≤ (k : Int) := by omega
      have hk1 : (k : Int) < (ps.length : Int) := by omega
      have hk2 : (0 : Int) ≤ (k : Int) + 1 := by omega
      have hk3 : ((k : Int) + 1 < (ps.length : Int)) = True := eq_true (by omega)
      have hk4 : ((k : Int) + 1).toNat = k + 1 := by omega
      clear hq hq' hsum hstep c1 c2 c3 c4 v0 v1 v2 v3 vd hpt
      go_wp2_with fail
      first | (with_reducible refine wp_region_ext_lit2 ?_ ?_ ?_) | refine wp_region_ext_lit ?_ ?_ ?_
      kernel_rfl
      kernel_rfl
      repeat (go_big_quiet_step ((go_at_call 40; with_reducible exact Ret.quiet (distance_c _ _ _ _ ok so _))))
      refine wpQuiet_nil ?_
      rintro _ ⟨u, rfl⟩
      go_wp2_with fail
      go_roundw
      case rel => exact ⟨k + 1, _, .inr (by omega), rfl, by go_num, n8, (by repeat (first | (with_reducible exact Kp.refl _) | (with_reducible assumption) | (with_reducible apply Kp.ext) | (with_reducible apply Kp.alloc) | (with_reducible apply Kp.drew) | (with_reducible apply Kp.drewN) | (with_reducible refine Kp.setCell ?_ (by first | (dsimp only; omega) | (simp; omega) | (simp; done) | (simp [size_ext_eq]; omega)) _)))⟩
      case measure => simp [intOf]; omega
    · have hk3 : ((k : Int) + 1 < (ps.length : Int)) = False := eq_false (by omega)
      have hk : k = ps.length - 1 := by omega
      rw [hk] at hsv
      go_wp2_with fail
      go_ret
      exact ⟨s, rfl, hsv, _, ext_of (show Kp w _ from (by repeat (first | (with_reducible exact Kp.refl _) | (with_reducible assumption) | (with_reducible apply Kp.ext) | (with_reducible apply Kp.alloc) | (with_reducible apply Kp.drew) | (with_reducible apply Kp.drewN) | (with_reducible refine Kp.setCell ?_ (by first | (dsimp only; omega) | (simp; omega) | (simp; done) | (simp [size_ext_eq]; omega)) _))))⟩

theorem ta_ls_Point (v : Value) (w : World) : (Instr.typeAssert (.iface 76 v) 57 55 true).run Tryd.prog w = .ok (.tuple #[.agg #[.float .f64 0, .float .f64 0], .bool false]) w := by kernel_rfl
theorem ta_ls_MultiPoint (v : Value) (w : World) : (Instr.typeAssert (.iface 76 v) 57 80 true).run Tryd.prog w = .ok (.tuple #[.slice none 0 0, .bool false]) w := by kernel_rfl
theorem ta_ls_LineString (v : Value) (w : World) : (Instr.typeAssert (.iface 76 v) 57 76 true).run Tryd.prog w = .ok (.tuple #[v, .bool true]) w := by kernel_rfl

set_option maxRecDepth 100000 in
set_option maxHeartbeats 1000000 in
theorem orbLen_c (a : Option Addr) (cap : Nat) (ps : List (Nat × Nat)) (hn : ps.length ≤ 1000) (w : World) (hs : PtsIn w a ps) (x y : Nat → Int) (hi : IntPts ps x y) (hax : AxisTo x y (ps.length - 1)) :
    Calls Tryd.prog 59 #[.iface 76 (.slice a ps.length cap), .func (.func 40) #[] #[]] w (LenRet w (sumTo (lenT x y) (ps.length - 1))) := by
  have hc := Lib.hid (fun w' (hk : Kp w w') => lineLen_c a cap ps hn w' (hs.kp hk) x y hi hax)
  clear hs hi hax
  have t1 := ta_ls_Point
  have t2 := ta_ls_MultiPoint
  have t3 := ta_ls_LineString
  go_enter Tryd.func59, Tryd.ntmps59
  go_wp2_with (go_at_call 75; (with_reducible refine (hc.out _ (by repeat (first | (with_reducible exact Kp.refl _) | (with_reducible assumption) | (with_reducible apply Kp.ext) | (with_reducible apply Kp.alloc) | (with_reducible apply Kp.drew) | (with_reducible apply Kp.drewN) | (with_reducible refine Kp.setCell ?_ (by first | (dsimp only; omega) | (simp; omega) | (simp; done) | (simp [size_ext_eq]; omega)) _)))).mono ?_); rintro e w1 ⟨s, rfl, hv, u, rfl⟩)
  go_ret
  exact ⟨s, rfl, hv, _, ext_of (show Kp w _ from (by repeat (first | (with_reducible exact Kp.refl _) | (with_reducible assumption) | (with_reducible apply Kp.ext) | (with_reducible apply Kp.alloc) | (with_reducible apply Kp.drew) | (with_reducible apply Kp.drewN) | (with_reducible refine Kp.setCell ?_ (by first | (dsimp only; omega) | (simp; omega) | (simp; done) | (simp [size_ext_eq]; omega)) _))))⟩
theorem planarLen_c (a : Option Addr) (cap : Nat) (ps : List (Nat × Nat)) (hn : ps.length ≤ 1000) (w : World) (hs : PtsIn w a ps) (x y : Nat → Int) (hi : IntPts ps x y) (hax : AxisTo x y (ps.length - 1)) :
    Calls Tryd.prog 38 #[.iface 76 (.slice a ps.length cap)] w (LenRet w (sumTo (lenT x y) (ps.length - 1))) := by
  have hc := Lib.hid (fun w' (hk : Kp w w') => orbLen_c a cap ps hn w' (hs.kp hk) x y hi hax)
  clear hs hi hax
  go_enter Tryd.func38, Tryd.ntmps38
  go_wp2_with (go_at_call 59; (with_reducible refine (hc.out _ (by repeat (first | (with_reducible exact Kp.refl _) | (with_reducible assumption) | (with_reducible apply Kp.ext) | (with_reducible apply Kp.alloc) | (with_reducible apply Kp.drew) | (with_reducible apply Kp.drewN) | (with_reducible refine Kp.setCell ?_ (by first | (dsimp only; omega) | (simp; omega) | (simp; done) | (simp [size_ext_eq]; omega)) _)))).mono ?_); rintro e w1 ⟨s, rfl, hv, u, rfl⟩)
  go_ret
  exact ⟨s, rfl, hv, _, ext_of (show Kp w _ from (by repeat (first | (with_reducible exact Kp.refl _) | (with_reducible assumption) | (with_reducible apply Kp.ext) | (with_reducible apply Kp.alloc) | (with_reducible apply Kp.drew) | (with_reducible apply Kp.drewN) | (with_reducible refine Kp.setCell ?_ (by first | (dsimp only; omega) | (simp; omega) | (simp; done) | (simp [size_ext_eq]; omega)) _))))⟩

/-- a line as a geometry, an empty one too -/
def GeoIn (T : TypeId) (w : World) (ps : List (Nat × Nat)) (e : Ending) (w' : World) : Prop := ∃ a' cap', e = .returned (.iface T (.slice a' ps.length cap')) ∧ PtsIn w' a' ps ∧ ∃ u, w' = ext w u
theorem PtsNew.in {w w' : World} {e : TypeId} {v : Value} {ps : List (Nat × Nat)} (h : PtsNew w w' e v ps) : ∃ a cap, v = .slice a ps.length cap ∧ PtsIn w' a ps := by
  by_cases h0 : 0 < ps.length
  · obtain ⟨g, cap, hv, _, hg, _, _, hp⟩ := h.form h0
    exact ⟨_, _, hv, .inr ⟨g, 0, rfl, hg, hp⟩⟩
  · obtain ⟨a, cap, hv⟩ := h.empty
    exact ⟨a, cap, hv, .inl (List.length_eq_zero_iff.1 (by omega))⟩

set_option maxRecDepth 100000 in
set_option maxHeartbeats 1000000 in
theorem geoLine'_c (L c : Nat) (P : Value) (a : Option Addr) (cap : Nat) (ps : List (Nat × Nat)) (hn : ps.length ≤ 2147483647) (w : World) (hL : L < w.heap.size) (hc : w.cell? ⟨L, 0, none⟩ = some (.slice a ps.length cap)) (hs : PtsIn w a ps) :
    Calls Tryd.prog 34 #[.agg #[.int .i64 2, .slice (some ⟨L, 0, none⟩) 1 c, P]] w (GeoIn 76 w ps) := by
  have hp := Lib.hid (fun w' (hk : Kp w w') => pointsOf_c a cap ps hn w' (hs.kp hk))
  have hf := Lib.hid (fun w' (hk : Kp w w') => first_c L c (.int .i64 2) P a ps.length cap w' (Nat.lt_of_lt_of_le hL hk.size) (Kp.cell hk hc hL))
  clear hs
  go_enter Tryd.func34, Tryd.ntmps34
  go_wp2_with (first | (go_at_call 50; (first | (with_reducible refine (Ret.at_ext (hf.out _ (by repeat (first | (with_reducible exact Kp.refl _) | (with_reducible assumption) | (with_reducible apply Kp.ext) | (with_reducible apply Kp.alloc) | (with_reducible apply Kp.drew) | (with_reducible apply Kp.drewN) | (with_reducible refine Kp.setCell ?_ (by first | (dsimp only; omega) | (simp; omega) | (simp; done) | (simp [size_ext_eq]; omega)) _))))).mono ?_) | (with_reducible refine (hf.out _ (by repeat (first | (with_reducible exact Kp.refl _) | (with_reducible assumption) | (with_reducible apply Kp.ext) | (with_reducible apply Kp.alloc) | (with_reducible apply Kp.drew) | (with_reducible apply Kp.drewN) | (with_reducible refine Kp.setCell ?_ (by first | (dsimp only; omega) | (simp; omega) | (simp; done) | (simp [size_ext_eq]; omega)) _)))).mono ?_)); rintro e w' ⟨rfl, u, rfl⟩) | (go_at_call 26; (with_reducible refine (hp.out _ (by repeat (first | (with_reducible exact Kp.refl _) | (with_reducible assumption) | (with_reducible apply Kp.ext) | (with_reducible apply Kp.alloc) | (with_reducible apply Kp.drew) | (with_reducible apply Kp.drewN) | (with_reducible refine Kp.setCell ?_ (by first | (dsimp only; omega) | (simp; omega) | (simp; done) | (simp [size_ext_eq]; omega)) _)))).mono ?_); rintro e w1 ⟨v, u, rfl, rfl, hq⟩; obtain ⟨g, cap', rfl, hpt⟩ := hq.in))
  go_ret
  exact ⟨g, cap', rfl, hpt, _, ext_of (show Kp w _ from (by repeat (first | (with_reducible exact Kp.refl _) | (with_reducible assumption) | (with_reducible apply Kp.ext) | (with_reducible apply Kp.alloc) | (with_reducible apply Kp.drew) | (with_reducible apply Kp.drewN) | (with_reducible refine Kp.setCell ?_ (by first | (dsimp only; omega) | (simp; omega) | (simp; done) | (simp [size_ext_eq]; omega)) _))))⟩

set_option maxRecDepth 20000 in
set_option maxHeartbeats 1000000 in
theorem implLen_c (L c : Nat) (a : Option Addr) (cap : Nat) (ps : List (Nat × Nat)) (hn : ps.length ≤ 1000) (w : World) (hL : L < w.heap.size) (hc : w.cell? ⟨L, 0, none⟩ = some (.slice a ps.length cap)) (hs : PtsIn w a ps) (x y : Nat → Int) (hi : IntPts ps x y) (hax : AxisTo x y (ps.length - 1)) :
    Calls Tryd.prog 21 #[.agg #[.int .i64 2, .slice (some ⟨L, 0, none⟩) 1 c, .slice none 0 0]] w (LenRet w (sumTo (lenT x y) (ps.length - 1))) := by
  have hgeo := Lib.hid (fun w' (hk : Kp w w') => geoLine'_c L c (.slice none 0 0) a cap ps (by omega) w' (Nat.lt_of_lt_of_le hL hk.size) (Kp.cell hk hc hL) (hs.kp hk))
  have hlen := Lib.hid (fun a cap w' hs' => planarLen_c a cap ps hn w' hs' x y hi hax)
  clear hs hc hi hax
  go_enter Tryd.func21, Tryd.ntmps21
  go_wp2_with (first | (go_at_call 34; (with_reducible refine (hgeo.out _ (by repeat (first | (with_reducible exact Kp.refl _) | (with_reducible assumption) | (with_reducible apply Kp.ext) | (with_reducible apply Kp.alloc) | (with_reducible apply Kp.drew) | (with_reducible apply Kp.drewN) | (with_reducible refine Kp.setCell ?_ (by first | (dsimp only; omega) | (simp; omega) | (simp; done) | (simp [size_ext_eq]; omega)) _)))).mono ?_); rintro e w1 ⟨g, cap', rfl, hpt, u, hu⟩; have HD := Lib.hid (fun w' (hk : Kp w1 w') => hlen.out g cap' w' (hpt.kp hk)); clear hpt; subst hu) | (go_at_call 38; (with_reducible refine (HD.out _ (Kp.refl _)).mono ?_); rintro e w2 ⟨s, rfl, hv, u2, rfl⟩))
  go_ret
  exact ⟨s, rfl, hv, _, ext_of (show Kp w _ from (by repeat (first | (with_reducible exact Kp.refl _) | (with_reducible assumption) | (with_reducible apply Kp.ext) | (with_reducible apply Kp.alloc) | (with_reducible apply Kp.drew) | (with_reducible apply Kp.drewN) | (with_reducible refine Kp.setCell ?_ (by first | (dsimp only; omega) | (simp; omega) | (simp; done) | (simp [size_ext_eq]; omega)) _))))⟩
end Go.Proofs.YtcljppkejabibaaDoor
