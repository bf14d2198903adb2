/-
  spec.Radial, walked.
-/
import Derived.Test.YtglopopdmkgooaaLawKeep
namespace Go.Proofs.Ytglopopdmkgooaa
open PubFl Go.RowKit PubVis

attribute [local go_sem] cell_ext frozen_ext ext_setCell cell_store size_ext_eq lt_p0 lt_p1 lt_p2 lt_p3 lt_p4 lt_p5 lt_p6 lt_p7 lt_p8 lt_p9 lt_p10 lt_p11 lt_p12 lt_p13 lt_p14 lt_p15 lt_p16 lt_p17 lt_p18 lt_p19 lt_p20 lt_p21 lt_p22 lt_p23 lt_p24 lt_p25 lt_p26 lt_p27 lt_p28 lt_p29 lt_p30 lt_p31 lt_p32 lt_q1 lt_q2 lt_q3 lt_q4 lt_q5 lt_q6 lt_q7 lt_q8 lt_q9 lt_q10 lt_q11 lt_q12 lt_q13 lt_q14 lt_q15 lt_q16 lt_q17 lt_q18 lt_q19 lt_q20 lt_q21 lt_q22 lt_q23 lt_q24 lt_q25 lt_q26 lt_q27 lt_q28 lt_q29 lt_q30 lt_q31 lt_q32 run_fop run_store_float
attribute [local go_sem high] cmp_eql cmp_neq cmp_lss cmp_leq cmp_gtr cmp_geq

/-- what the plain rule compares -/
structure FarS (ps : List (Nat × Nat)) (t : Nat) (far : Nat → Nat → Bool) : Prop where
  o : FOk .mul t t
  d : ∀ (c i : Nat) (hc : c < ps.length) (hi : i < ps.length), DsqOk (ps[c]'hc).1 (ps[c]'hc).2 (ps[i]'hi).1 (ps[i]'hi).2 ∧ gtF (dsqF (ps[c]'hc).1 (ps[c]'hc).2 (ps[i]'hi).1 (ps[i]'hi).2) (fop .mul t t) = far c i
theorem LineI.farS {ps : List (Nat × Nat)} {X Y : Nat → Int} (h : LineI ps X Y) {t : Nat} {T : Int} (ht : IsV t T) (t0 : 0 ≤ T) (t1 : T ≤ 1000) : FarS ps t (fun c i => decide (T * T < dI X Y c i)) := by
  obtain ⟨⟨o, _⟩, _⟩ := most_t ht t0 t1
  refine ⟨o, fun c i hc hi => ?_⟩
  obtain ⟨o, v, d0, d1⟩ := h.dsq hc hi
  obtain ⟨so, _, _, _, g⟩ := sqrt_gt v ht d0 d1 t0 t1
  exact ⟨o, g⟩

/-- the plain rule's list so far -/
structure SpRel (w wr : World) (ps : List (Nat × Nat)) (far : Nat → Nat → Bool) (k : Nat) (v : Value) : Prop where
  kn : k + 1 ≤ ps.length
  own : wr.ownsRow w.heap.size 34 2 v (radAt far ps k).1.length (cellsOf (radAt far ps k).1)
  kp : Kp w wr
theorem new_two (w : World) (x y : Nat) (e : TypeId) : ∀ j u, [Value.float .f64 x, .float .f64 y][j]? = some u → (w.alloc (.cells #[.float .f64 x, .float .f64 y] e)).cell? ((⟨w.heap.size, 0, none⟩ : Addr).add j) = some u := cell_two_new w _ _ e
theorem oneCell_two (x y : Nat) : ∀ u ∈ [Value.float .f64 x, .float .f64 y], u.oneCell' = true := by
  intro u hu
  simp only [List.mem_cons, List.not_mem_nil, or_false] at hu
  rcases hu with rfl | rfl <;> rfl

set_option maxRecDepth 20000 in
set_option maxHeartbeats 2000000 in
theorem specRadial_c (a : Option Addr) (cap t : Nat) (ps : List (Nat × Nat)) (far : Nat → Nat → Bool) (hn : ps.length ≤ 1000) (h2 : 2 ≤ ps.length) (hcap : ps.length ≤ cap) (F : FarS ps t far) (he : ∀ i j, i < ps.length → j < ps.length → ptEq ps i j = decide (i = j)) (w : World) (hs : PtsIn w a ps) :
    Calls Try.prog 18 #[.slice a ps.length cap, .float .f64 t] w (RetO w 34 (radOut far ps)) := by
  obtain ⟨i0, hi, hz0, hz1, hz2⟩ := info_parts infoPt
  obtain ⟨b, off, rfl, hb, hpt⟩ := hs.cells (by omega)
  obtain ⟨s0, s1⟩ := hpt 0 (by omega)
  have hp0 : ps.getD 0 (0, 0) = ps[0]'(by omega) := getD_in _ _ (by omega)
  obtain ⟨⟨sx, sy⟩, hq0⟩ : ∃ p, ps[0]'(by omega) = p := ⟨_, rfl⟩
  rw [hq0] at s0 s1 hp0
  simp only [Nat.zero_mul, Nat.add_zero] at s0 s1
  have Hp0 := Lib.hid hp0
  have ot := F.o
  have HF := Lib.hid F
  have He := Lib.hid he
  have Hpt := Lib.hid hpt
  have hcap1 : (1 : Int) ≤ (cap : Int) := by omega
  have hcap2 : ((1 : Int) < (cap : Int)) = True := eq_true (by omega)
  have hcap3 : cap ≠ 1 := by omega
  clear hs hpt F he hp0 hq0
  go_enter Try.func18, Try.ntmps18
  go_wp2_with fail
  go_loopw [5, 15] (fun s5 s15 wr => ∃ k : Nat, s15 = .int .i64 (k : Nat) ∧ SpRel w wr ps far k s5) (fun _ s15 _ => ps.length - (intOf s15).toNat)
  case atStart => exact ⟨0, rfl, by omega, by
    show World.ownsRow _ _ _ 2 _ 1 (cellsOf [ps.getD 0 (0, 0)])
    rw [Hp0.out]
    exact World.ownsRow_lit w #[.float .f64 sx, .float .f64 sy] 1 (Nat.le_refl _) (by decide) rfl, (by repeat (first | (with_reducible exact Kp.refl _) | (with_reducible assumption) | (with_reducible apply Kp.ext) | (with_reducible apply Kp.alloc) | (with_reducible apply Kp.drew) | (with_reducible apply Kp.drewN) | (with_reducible refine Kp.setCell ?_ (by first | (dsimp only; omega) | (simp; omega) | (simp; done) | (simp [size_ext_eq]; omega)) _)))⟩
  case round =>
    obtain ⟨k, rfl, hr⟩ := hrel
    have hkn := hr.kn
    have ok := radAt_ok far ps k
    have okp := ok.k_pos
    have okl := ok.k_le
    have okc := ok.c_le
    have hkp := hr.kp
    have hbr : b < wr.heap.size := Nat.lt_of_lt_of_le hb hkp.size
    obtain ⟨g, gc, rfl, hg1, hg2, hgc⟩ := ownsRow_some hr.own (by omega)
    have hlast := ok.last (by omega)
    have hcn : (radAt far ps k).2 < ps.length := by omega
    have l0 := hr.own.cellAt (((radAt far ps k).1.length - 1) * 2) (by omega)
    have l1 := hr.own.cellAt (((radAt far ps k).1.length - 1) * 2 + 1) (by omega)
    obtain ⟨c0, c1⟩ := cellsOf_get (radAt far ps k).1 ((radAt far ps k).1.length - 1) (by omega)
    rw [hlast, getD_in _ _ hcn] at c0 c1
    rw [c0] at l0
    rw [c1] at l1
    by_cases hlt : k + 1 < ps.length
    · obtain ⟨e0, e1⟩ := Hpt.out.kp hb hkp (k + 1) hlt
      rw [show off + (k + 1) * 2 = off + 2 + k * 2 by omega] at e0 e1
      obtain ⟨o1, o2⟩ := HF.out.d (radAt far ps k).2 (k + 1) hcn hlt
      have hsucc : radAt far ps (k + 1) = if far (radAt far ps k).2 (k + 1) then ((radAt far ps k).1 ++ [ps[k + 1]'hlt], k + 1) else radAt far ps k := by
        rw [← getD_in ps (k + 1) hlt]; rfl
      obtain ⟨⟨qx, qy⟩, hq⟩ : ∃ q, ps[k + 1]'hlt = q := ⟨_, rfl⟩
      obtain ⟨⟨lx, ly⟩, hq2⟩ : ∃ q, ps[(radAt far ps k).2]'hcn = q := ⟨_, rfl⟩
      simp only [hq, hq2] at e0 e1 o1 o2 hsucc l0 l1
      have Hr := Lib.hid hr
      have Hsucc := Lib.hid hsucc
      obtain ⟨ra, hra⟩ : ∃ ra, radAt far ps k = ra := ⟨_, rfl⟩
      have hown := hr.own
      rw [hra] at hown l0 l1 o2 okp okl okc hgc Hsucc ⊢
      obtain ⟨K, c⟩ := ra
      simp only at hown l0 l1 o2 okp okl okc hgc Hsucc ⊢
      have w1' : IntKind.i64.wrap ((K.length : Int) - 1) = (K.length : Int) - 1 := wrap_in2 _ (by omega) (by omega)
      have n1 : ((K.length : Int) - 1).toNat = K.length - 1 := by omega
      have l3 : (0 : Int) ≤ (K.length : Int) - 1 := by omega
      have l4 : (K.length : Int) - 1 < (K.length : Int) := by omega
      have j1 : (k : Int) < ((ps.length - 1 : Nat) : Int) := by omega
      have Hown0 := Lib.hid hown
      clear hq hq2 hsucc hown hr ok hlast hcn c0 c1 hra
      cases hfar : far c (k + 1)
      · rw [hfar] at o2
        have Hf := Lib.hid hfar
        clear hfar
        go_wp2_with fail
        first | (with_reducible refine wp_region_ext_lit2 ?_ ?_ ?_) | refine wp_region_ext_lit ?_ ?_ ?_
        kernel_rfl
        kernel_rfl
        repeat (go_big_quiet_step ((go_at_call 27; with_reducible exact Ret.quiet (squared_c _ _ _ _ o1 _))))
        refine wpQuiet_nil ?_
        rintro _ ⟨u, rfl⟩
        go_wp2_with fail
        go_roundw
        case rel => exact ⟨k + 1, by go_num, by omega, by rw [Hsucc.out, Hf.out, if_neg (by decide)]; exact ownsRow_kp (Hown0.out.alloc _) ((Kp.refl _).ext u), (by repeat (first | (with_reducible exact Kp.refl _) | (with_reducible assumption) | (with_reducible apply Kp.ext) | (with_reducible apply Kp.alloc) | (with_reducible apply Kp.drew) | (with_reducible apply Kp.drewN) | (with_reducible refine Kp.setCell ?_ (by first | (dsimp only; omega) | (simp; omega) | (simp; done) | (simp [size_ext_eq]; omega)) _)))⟩
        case measure => simp [intOf]; omega
      · rw [hfar] at o2
        have Hf := Lib.hid hfar
        clear hfar
        go_wp2_with fail
        first | (with_reducible refine wp_region_ext_lit2 ?_ ?_ ?_) | refine wp_region_ext_lit ?_ ?_ ?_
        kernel_rfl
        kernel_rfl
        repeat (go_big_quiet_step ((go_at_call 27; with_reducible exact Ret.quiet (squared_c _ _ _ _ o1 _))))
        refine wpQuiet_nil ?_
        rintro _ ⟨u, rfl⟩
        have hown := ownsRow_kp (Hown0.out.alloc (.cells #[.float .f64 qx, .float .f64 qy] 34)) ((Kp.refl _).ext u)
        have mW : NewPt wr (ext (wr.alloc (.cells #[.float .f64 qx, .float .f64 qy] 34)) u) wr.heap.size qx qy := (by repeat (first | assumption | ((with_reducible refine NewPt.at ?_ _ _ _ ?_) <;> (first | (simp; done) | (simp; omega) | omega | (simp [size_ext_eq]; done) | (simp [size_ext_eq]; omega))) | (with_reducible apply NewPt.alloc) | (with_reducible apply NewPt.drew) | (with_reducible apply NewPt.drewN) | (with_reducible apply NewPt.ext) | (with_reducible exact NewPt.store (by assumption) _ _) | (with_reducible refine NewPt.other ?_ (by omega) _ _)))
        have hkW : Kp wr (ext (wr.alloc (.cells #[.float .f64 qx, .float .f64 qy] 34)) u) := (by repeat (first | (with_reducible exact Kp.refl _) | (with_reducible assumption) | (with_reducible apply Kp.ext) | (with_reducible apply Kp.alloc) | (with_reducible apply Kp.drew) | (with_reducible apply Kp.drewN) | (with_reducible refine Kp.setCell ?_ (by first | (dsimp only; omega) | (simp; omega) | (simp; done) | (simp [size_ext_eq]; omega)) _)))
        have Hown := Lib.hid hown
        obtain ⟨W, hW⟩ : ∃ W, W = ext (wr.alloc (.cells #[.float .f64 qx, .float .f64 qy] 34)) u := ⟨_, rfl⟩
        rw [← hW] at Hown mW hkW ⊢
        obtain ⟨_, i1, x2, y2, z2, z3⟩ := id mW
        have Hkw := Lib.hid (hkp.trans hkW)
        clear hown hW
        go_wp2_with (at_builtin; refine wpList_append_own2 _ rfl (.tmp 31) (.tmp 33) 22 rfl w.heap.size 34 i0 (.agg #[.float .f64 0, .float .f64 0]) 2 16 Try.underlying22 hi hz0 hz1 hz2 rfl (by decide) _ K.length _ rfl (Hown.out.alloc _) ⟨W.heap.size, 0, none⟩ 1 1 [.float .f64 qx, .float .f64 qy] rfl rfl (new_two _ _ _ _) (oneCell_two _ _) ?d3 ?d4 ?d5 ?_)
        case d3 => unfold maxLen; omega
        case d4 => omega
        case d5 => have := Hkw.out.size; simp; omega
        intro v2 w2 hown2 hgrow2 hblk2
        have H2 := Lib.hid (show SpRel w w2 ps far (k + 1) v2 from ⟨by omega, by
          rw [Hsucc.out, Hf.out, if_pos rfl]
          show World.ownsRow _ _ _ 2 _ (K ++ [(qx, qy)]).length (cellsOf (K ++ [(qx, qy)]))
          rw [cellsOf_snoc, List.length_append]; exact hown2, Below.grown (Hkw.out.alloc _) hgrow2 (by have := Hkw.out.size; simp; omega) (fun q hq => (Hown.out.lt q hq).1)⟩)
        clear hown2 hgrow2 hblk2
        go_wp2_with fail
        go_roundw
        case rel => exact ⟨k + 1, by go_num, H2.out⟩
        case measure => simp [intOf]; omega
    · have hkn2 : k = ps.length - 1 := by omega
      have hcq := He.out (radAt far ps k).2 (ps.length - 1) hcn (by omega)
      obtain ⟨e0, e1⟩ := Hpt.out.kp hb hkp (ps.length - 1) (by omega)
      have hN : ptAt ps (ps.length - 1) = ps[ps.length - 1]'(by omega) := getD_in _ _ (by omega)
      have hC : ptAt ps (radAt far ps k).2 = ps[(radAt far ps k).2]'hcn := getD_in _ _ hcn
      have hout : radOut far ps = if (radAt far ps k).2 = ps.length - 1 then (radAt far ps k).1 else (radAt far ps k).1 ++ [ptAt ps (ps.length - 1)] := by unfold radOut ptAt; rw [hkn2]
      obtain ⟨⟨qx, qy⟩, hq⟩ : ∃ q, ps[ps.length - 1]'(by omega) = q := ⟨_, rfl⟩
      obtain ⟨⟨lx, ly⟩, hq2⟩ : ∃ q, ps[(radAt far ps k).2]'hcn = q := ⟨_, rfl⟩
      rw [hq] at hN
      rw [hq2] at hC
      rw [hN] at hout
      have heq := fun w' => run_neq_pt lx ly qx qy w'
      unfold ptEq at hcq
      rw [hN, hC] at hcq
      simp only at hcq
      rw [hcq] at heq
      simp only [hq, hq2] at e0 e1 l0 l1
      have Hout := Lib.hid hout
      obtain ⟨ra, hra⟩ : ∃ ra, radAt far ps k = ra := ⟨_, rfl⟩
      have hown := hr.own
      rw [hra] at hown l0 l1 okp okl okc hgc Hout heq ⊢
      obtain ⟨K, c⟩ := ra
      simp only at hown l0 l1 okp okl okc hgc Hout heq ⊢
      have w1' : IntKind.i64.wrap ((K.length : Int) - 1) = (K.length : Int) - 1 := wrap_in2 _ (by omega) (by omega)
      have n1 : ((K.length : Int) - 1).toNat = K.length - 1 := by omega
      have l3 : (0 : Int) ≤ (K.length : Int) - 1 := by omega
      have l4 : (K.length : Int) - 1 < (K.length : Int) := by omega
      have w2' : IntKind.i64.wrap ((ps.length : Int) - 1) = (ps.length : Int) - 1 := wrap_in2 _ (by omega) (by omega)
      have n2 : ((ps.length : Int) - 1).toNat = ps.length - 1 := by omega
      have l5 : (0 : Int) ≤ (ps.length : Int) - 1 := by omega
      have l6 : (ps.length : Int) - 1 < (ps.length : Int) := by omega
      have j1 : ((k : Int) < ((ps.length - 1 : Nat) : Int)) = False := eq_false (by omega)
      have j2 : (k < ps.length - 1) = False := eq_false (by omega)
      have Hown0 := Lib.hid hown
      have Hkp := Lib.hid hkp
      clear hq hq2 hout hown hr ok hlast hcn c0 c1 hra hN hC hcq hkn2
      by_cases hc : c = ps.length - 1
      · rw [decide_eq_true hc] at heq
        have Hc := Lib.hid hc
        clear hc
        go_wp2_with fail
        first | (with_reducible refine wp_region_ext_lit2 ?_ ?_ ?_) | refine wp_region_ext_lit ?_ ?_ ?_
        kernel_rfl
        kernel_rfl
        repeat (go_big_quiet_step (fail))
        refine wpQuiet_nil ?_
        rintro _ ⟨u, rfl⟩
        go_wp2_with fail
        go_ret
        exact RetO.mk rfl (Hkp.out.ext u) (by rw [Hout.out, if_pos Hc.out]; exact ownsRow_kp Hown0.out ((Kp.refl _).ext u))
      · rw [decide_eq_false hc] at heq
        have Hc := Lib.hid hc
        clear hc
        go_wp2_with fail
        first | (with_reducible refine wp_region_ext_lit2 ?_ ?_ ?_) | refine wp_region_ext_lit ?_ ?_ ?_
        kernel_rfl
        kernel_rfl
        repeat (go_big_quiet_step (fail))
        refine wpQuiet_nil ?_
        rintro _ ⟨u, rfl⟩
        have hown := ownsRow_kp Hown0.out ((Kp.refl wr).ext u)
        have hkW : Kp wr (ext wr u) := (by repeat (first | (with_reducible exact Kp.refl _) | (with_reducible assumption) | (with_reducible apply Kp.ext) | (with_reducible apply Kp.alloc) | (with_reducible apply Kp.drew) | (with_reducible apply Kp.drewN) | (with_reducible refine Kp.setCell ?_ (by first | (dsimp only; omega) | (simp; omega) | (simp; done) | (simp [size_ext_eq]; omega)) _)))
        have E0 := Kp.cell hkW e0 hbr
        have E1 := Kp.cell hkW e1 hbr
        have hbW : b < (ext wr u).heap.size := Nat.lt_of_lt_of_le hbr hkW.size
        have Hown := Lib.hid hown
        obtain ⟨W, hW⟩ : ∃ W, W = ext wr u := ⟨_, rfl⟩
        rw [← hW] at Hown hkW E0 E1 hbW ⊢
        have Hkw := Lib.hid (Hkp.out.trans hkW)
        clear hown hW
        go_wp2_with (at_builtin; refine wpList_append_own2 _ rfl (.tmp 49) (.tmp 56) 22 rfl w.heap.size 34 i0 (.agg #[.float .f64 0, .float .f64 0]) 2 16 Try.underlying22 hi hz0 hz1 hz2 rfl (by decide) _ K.length _ rfl (Hown.out.alloc _) ⟨W.heap.size, 0, none⟩ 1 1 [.float .f64 qx, .float .f64 qy] rfl rfl (new_two _ _ _ _) (oneCell_two _ _) ?d3 ?d4 ?d5 ?_)
        case d3 => unfold maxLen; omega
        case d4 => omega
        case d5 => have := Hkw.out.size; simp; omega
        intro v2 w2 hown2 hgrow2 hblk2
        have H2 := Lib.hid (show PtsNew w w2 34 v2 (radOut far ps) ∧ Kp w w2 from ⟨by
          rw [Hout.out, if_neg Hc.out]
          show World.ownsRow _ _ _ 2 _ (K ++ [(qx, qy)]).length (cellsOf (K ++ [(qx, qy)]))
          rw [cellsOf_snoc, List.length_append]; exact hown2, Below.grown (Hkw.out.alloc _) hgrow2 (by have := Hkw.out.size; simp; omega) (fun q hq => (Hown.out.lt q hq).1)⟩)
        clear hown2 hgrow2 hblk2
        go_wp2_with fail
        go_ret
        exact RetO.mk rfl H2.out.2 H2.out.1
end Go.Proofs.Ytglopopdmkgooaa
