/-
  planar.multiPointDistanceFrom: the first of the nearest points.
-/
import Derived.Test.YtcljppkejabibaaDoorMeas
namespace Go.Proofs.YtcljppkejabibaaDoor
open PubFl Go.RowKit

attribute [local go_sem] cell_ext frozen_ext ext_setCell cell_store size_ext_eq lt_p0 lt_p1 lt_p2 lt_p3 lt_p4 lt_p5 lt_p6 lt_p7 lt_p8 lt_p9 lt_p10 lt_p11 lt_p12 lt_p13 lt_p14 lt_p15 lt_p16 lt_p17 lt_p18 lt_p19 lt_p20 lt_p21 lt_p22 lt_p23 lt_p24 lt_p25 lt_p26 lt_p27 lt_p28 lt_p29 lt_p30 lt_p31 lt_p32 lt_q1 lt_q2 lt_q3 lt_q4 lt_q5 lt_q6 lt_q7 lt_q8 lt_q9 lt_q10 lt_q11 lt_q12 lt_q13 lt_q14 lt_q15 lt_q16 lt_q17 lt_q18 lt_q19 lt_q20 lt_q21 lt_q22 lt_q23 lt_q24 lt_q25 lt_q26 lt_q27 lt_q28 lt_q29 lt_q30 lt_q31 lt_q32 run_fop run_store_float
attribute [local go_sem high] cmp_eql cmp_neq cmp_lss cmp_leq cmp_gtr cmp_geq

theorem lt_inf {x : Nat} {q : Rat} (h : IsV x q) : ltF x 9218868437227405312 = true := by
  obtain ⟨_, s, m, e, hr, _⟩ := h
  have hi : Ieee.double.read 9218868437227405312 = .infinity false := by kernel_rfl
  show (Ieee.double.order x 9218868437227405312 == some .lt) = true
  unfold Ieee.Format.order
  rw [hr, hi]
  rfl

/-- the squares of the distances from a point, as the program reckons them -/
def dS (px py : Nat) (ps : List (Nat × Nat)) (i : Nat) : Nat := dsqF (ps.getD i (0, 0)).1 (ps.getD i (0, 0)).2 px py
/-- the first of the nearest among the first k -/
def bestF (d : Nat → Nat) : Nat → Nat
  | 0 => 0
  | k + 1 => if ltF (d k) (d (bestF d k)) = true then k else bestF d k
theorem bestF_lt (d : Nat → Nat) : ∀ k, 0 < k → bestF d k < k
  | k + 1, _ => by
    unfold bestF
    split
    · omega
    · cases k with
      | zero => exact Nat.zero_lt_one
      | succ k => have := bestF_lt d (k + 1) (by omega); omega
theorem bestF_yes (d : Nat → Nat) (k : Nat) (h : ltF (d k) (d (bestF d k)) = true) : bestF d (k + 1) = k := by
  show (if _ then _ else _) = _
  rw [if_pos h]
theorem bestF_no (d : Nat → Nat) (k : Nat) (h : ltF (d k) (d (bestF d k)) = false) : bestF d (k + 1) = bestF d k := by
  show (if _ then _ else _) = _
  rw [if_neg (by rw [h]; decide)]

structure DistOk (px py : Nat) (ps : List (Nat × Nat)) : Prop where
  ok : ∀ (i : Nat) (h : i < ps.length), DsqOk (ps[i]'h).1 (ps[i]'h).2 px py
  v : ∀ i, i < ps.length → ∃ q, IsV (dS px py ps i) q ∧ 0 ≤ q ∧ SOk (dS px py ps i)

theorem inf_c (w : World) : Calls Tryd.prog 60 #[.int .i64 1] w (Ret w (.float .f64 9218868437227405312)) := by
  have h := x_frombits
  go_enter Tryd.func60, Tryd.ntmps60
  go_wp2_with fail
  go_ret
  exact Ret.mk rfl (by repeat (first | (with_reducible exact Kp.refl _) | (with_reducible assumption) | (with_reducible apply Kp.ext) | (with_reducible apply Kp.alloc) | (with_reducible apply Kp.drew) | (with_reducible apply Kp.drewN) | (with_reducible refine Kp.setCell ?_ (by first | (dsimp only; omega) | (simp; omega) | (simp; done) | (simp [size_ext_eq]; omega)) _)))

def DistRel (d : Nat → Nat) (k : Nat) (s6 s7 : Value) : Prop := (k = 0 ∧ s6 = .float .f64 9218868437227405312 ∧ s7 = .int .i64 (-1)) ∨ (0 < k ∧ s6 = .float .f64 (d (bestF d k)) ∧ s7 = .int .i64 (bestF d k : Nat))

set_option maxRecDepth 20000 in
set_option maxHeartbeats 1000000 in
theorem mpDist_c (b off cap : Nat) (ps : List (Nat × Nat)) (hn : ps.length ≤ 1000) (hpos : 0 < ps.length) (w : World) (hb : b < w.heap.size) (hpt : PtsAt w b off ps) (px py : Nat) (hok : DistOk px py ps) :
    Calls Tryd.prog 61 #[.slice (some ⟨b, off, none⟩) ps.length cap, .agg #[.float .f64 px, .float .f64 py]] w (Ret w (.tuple #[.float .f64 (sqrtF (dS px py ps (bestF (dS px py ps) ps.length))), .int .i64 (bestF (dS px py ps) ps.length : Nat)])) := by
  obtain ⟨ok, hv⟩ := hok
  have Hok := Lib.hid ok
  have Hv := Lib.hid hv
  have Hpt := Lib.hid hpt
  clear ok hv hpt
  go_enter Tryd.func61, Tryd.ntmps61
  go_wp2_with (go_at_call 60; (first | (with_reducible refine (Ret.at_ext (inf_c _)).mono ?_) | (with_reducible refine (inf_c _).mono ?_)); rintro e w' ⟨rfl, u, rfl⟩)
  go_loopw [6, 7, 13] (fun s6 s7 s13 wr => ∃ k : Nat, k ≤ ps.length ∧ s13 = .int .i64 k ∧ Kp w wr ∧ NewPt w wr w.heap.size px py ∧ DistRel (dS px py ps) k s6 s7) (fun _ _ s13 _ => ps.length - (intOf s13).toNat)
  case atStart => exact ⟨0, by omega, rfl, (by repeat (first | (with_reducible exact Kp.refl _) | (with_reducible assumption) | (with_reducible apply Kp.ext) | (with_reducible apply Kp.alloc) | (with_reducible apply Kp.drew) | (with_reducible apply Kp.drewN) | (with_reducible refine Kp.setCell ?_ (by first | (dsimp only; omega) | (simp; omega) | (simp; done) | (simp [size_ext_eq]; omega)) _))), (by repeat (first | assumption | ((with_reducible refine NewPt.at ?_ _ _ _ ?_) <;> (first | (simp; done) | (simp; omega) | omega | (simp [size_ext_eq]; done) | (simp [size_ext_eq]; omega))) | (with_reducible apply NewPt.alloc) | (with_reducible apply NewPt.drew) | (with_reducible apply NewPt.drewN) | (with_reducible apply NewPt.ext) | (with_reducible exact NewPt.store (by assumption) _ _) | (with_reducible refine NewPt.other ?_ (by omega) _ _))), .inl ⟨rfl, rfl, rfl⟩⟩
  case round =>
    obtain ⟨k, hkn, rfl, hkp, m, hrel⟩ := hrel
    by_cases hlt : k < ps.length
    · obtain ⟨e0, e1⟩ := Hpt.out.kp hb hkp k hlt
      have ok := Hok.out k hlt
      obtain ⟨qk, vk, _, _⟩ := Hv.out k hlt
      have hd : dS px py ps k = dsqF (ps[k]'hlt).1 (ps[k]'hlt).2 px py := by unfold dS; rw [getD_in _ _ hlt]
      obtain ⟨⟨qx, qy⟩, hq⟩ : ∃ q, ps[k]'hlt = q := ⟨_, rfl⟩
      simp only [hq] at e0 e1 ok hd
      rw [hd] at vk
      have hbk : b < wr.heap.size := Nat.lt_of_lt_of_le hb hkp.size
      obtain ⟨_, i1, p0, p1, z0, z1⟩ := id m
      have Hd := Lib.hid hd
      clear hq hd
      rcases hrel with ⟨hk0, rfl, rfl⟩ | ⟨hk0, rfl, rfl⟩
      · have hl := lt_inf vk
        have hself : ltF (dsqF qx qy px py) (dsqF qx qy px py) = false := by rw [ltF_isV vk vk]; simp
        have hbest : bestF (dS px py ps) (k + 1) = k := by
          subst hk0
          rw [bestF_no _ _ (by show ltF (dS px py ps 0) (dS px py ps 0) = false; rw [Hd.out]; exact hself)]
          rfl
        have Hb := Lib.hid hbest
        clear hself hbest vk hk0
        go_wp2_with fail
        first | (with_reducible refine wp_region_ext_lit2 ?_ ?_ ?_) | refine wp_region_ext_lit ?_ ?_ ?_
        kernel_rfl
        kernel_rfl
        repeat (go_big_quiet_step ((go_at_call 77; with_reducible exact Ret.quiet (distanceSquared_c _ _ _ _ ok _))))
        refine wpQuiet_nil ?_
        rintro _ ⟨u, rfl⟩
        go_wp2_with fail
        go_roundw
        case rel => exact ⟨k + 1, by omega, by go_num, (by repeat (first | (with_reducible exact Kp.refl _) | (with_reducible assumption) | (with_reducible apply Kp.ext) | (with_reducible apply Kp.alloc) | (with_reducible apply Kp.drew) | (with_reducible apply Kp.drewN) | (with_reducible refine Kp.setCell ?_ (by first | (dsimp only; omega) | (simp; omega) | (simp; done) | (simp [size_ext_eq]; omega)) _))), m.ext _, .inr ⟨by omega, by rw [Hb.out, Hd.out], by rw [Hb.out]⟩⟩
        case measure => simp [intOf]; omega
      · have hs := Lib.hid (bestF_yes (dS px py ps) k)
        have hno := Lib.hid (bestF_no (dS px py ps) k)
        cases hl : ltF (dsqF qx qy px py) (dS px py ps (bestF (dS px py ps) k))
        · have hbest := hno.out (by rw [Hd.out]; exact hl)
          have Hb := Lib.hid hbest
          clear hbest vk hs hno
          go_wp2_with fail
          first | (with_reducible refine wp_region_ext_lit2 ?_ ?_ ?_) | refine wp_region_ext_lit ?_ ?_ ?_
          kernel_rfl
          kernel_rfl
          repeat (go_big_quiet_step ((go_at_call 77; with_reducible exact Ret.quiet (distanceSquared_c _ _ _ _ ok _))))
          refine wpQuiet_nil ?_
          rintro _ ⟨u, rfl⟩
          go_wp2_with fail
          go_roundw
          case rel => exact ⟨k + 1, by omega, by go_num, (by repeat (first | (with_reducible exact Kp.refl _) | (with_reducible assumption) | (with_reducible apply Kp.ext) | (with_reducible apply Kp.alloc) | (with_reducible apply Kp.drew) | (with_reducible apply Kp.drewN) | (with_reducible refine Kp.setCell ?_ (by first | (dsimp only; omega) | (simp; omega) | (simp; done) | (simp [size_ext_eq]; omega)) _))), m.ext _, .inr ⟨by omega, by rw [Hb.out], by rw [Hb.out]⟩⟩
          case measure => simp [intOf]; omega
        · have hbest := hs.out (by rw [Hd.out]; exact hl)
          have Hb := Lib.hid hbest
          clear hbest vk hs hno
          go_wp2_with fail
          first | (with_reducible refine wp_region_ext_lit2 ?_ ?_ ?_) | refine wp_region_ext_lit ?_ ?_ ?_
          kernel_rfl
          kernel_rfl
          repeat (go_big_quiet_step ((go_at_call 77; with_reducible exact Ret.quiet (distanceSquared_c _ _ _ _ ok _))))
          refine wpQuiet_nil ?_
          rintro _ ⟨u, rfl⟩
          go_wp2_with fail
          go_roundw
          case rel => exact ⟨k + 1, by omega, by go_num, (by repeat (first | (with_reducible exact Kp.refl _) | (with_reducible assumption) | (with_reducible apply Kp.ext) | (with_reducible apply Kp.alloc) | (with_reducible apply Kp.drew) | (with_reducible apply Kp.drewN) | (with_reducible refine Kp.setCell ?_ (by first | (dsimp only; omega) | (simp; omega) | (simp; done) | (simp [size_ext_eq]; omega)) _))), m.ext _, .inr ⟨by omega, by rw [Hb.out, Hd.out], by rw [Hb.out]⟩⟩
          case measure => simp [intOf]; omega
    · obtain rfl : k = ps.length := by omega
      rcases hrel with ⟨hk0, _, _⟩ | ⟨hk0, rfl, rfl⟩
      · omega
      · obtain ⟨_, _, _, so⟩ := Hv.out _ (bestF_lt (dS px py ps) _ hk0)
        generalize bestF (dS px py ps) ps.length = bb at *
        generalize dS px py ps bb = dd at *
        go_wp2_with (go_at_call 64; (first | (with_reducible refine (Ret.at_ext (sqrt_c _ so _)).mono ?_) | (with_reducible refine (sqrt_c _ so _).mono ?_)); rintro e w' ⟨rfl, u, rfl⟩)
        go_ret2
        exact Ret.mk rfl (by repeat (first | (with_reducible exact Kp.refl _) | (with_reducible assumption) | (with_reducible apply Kp.ext) | (with_reducible apply Kp.alloc) | (with_reducible apply Kp.drew) | (with_reducible apply Kp.drewN) | (with_reducible refine Kp.setCell ?_ (by first | (dsimp only; omega) | (simp; omega) | (simp; done) | (simp [size_ext_eq]; omega)) _)))
end Go.Proofs.YtcljppkejabibaaDoor
