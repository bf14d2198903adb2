/-
  spec.OuterPoints.
-/
import Derived.Test.YtciaeknfgdckbaaPof
namespace Go.Proofs.Ytciaeknfgdckbaa
open PubFl Go.RowKit

attribute [local go_sem] cell_ext frozen_ext ext_setCell cell_store size_ext_eq lt_p0 lt_p1 lt_p2 lt_p3 lt_p4 lt_p5 lt_p6 lt_p7 lt_p8 lt_p9 lt_p10 lt_p11 lt_p12 lt_p13 lt_p14 lt_p15 lt_p16 lt_p17 lt_p18 lt_p19 lt_p20 lt_p21 lt_p22 lt_p23 lt_p24 lt_p25 lt_p26 lt_p27 lt_p28 lt_p29 lt_p30 lt_p31 lt_p32 lt_q1 lt_q2 lt_q3 lt_q4 lt_q5 lt_q6 lt_q7 lt_q8 lt_q9 lt_q10 lt_q11 lt_q12 lt_q13 lt_q14 lt_q15 lt_q16 lt_q17 lt_q18 lt_q19 lt_q20 lt_q21 lt_q22 lt_q23 lt_q24 lt_q25 lt_q26 lt_q27 lt_q28 lt_q29 lt_q30 lt_q31 lt_q32 run_fop run_store_float
attribute [local go_sem high] cmp_eql cmp_neq cmp_lss cmp_leq cmp_gtr cmp_geq

set_option maxRecDepth 100000 in
set_option maxHeartbeats 4000000 in
theorem specOuter_c_step (d : Nat) (s : Sh) (lv pv : Value) (w : World) (hs : ShIn (d + 1) w lv pv s) (hn1 : s.lists.length ≤ 40) (hn2 : s.parts.length ≤ 40) (hn3 : ∀ l ∈ s.lists, l.length ≤ 300)
    (hn4 : ∀ i, i < s.parts.length → (ptsSh true d (s.parts.getD i dsh)).length ≤ 1000000000)
    (ih : ∀ (i : Nat) (h : i < s.parts.length) (lv pv : Value) (w : World), ShIn d w lv pv (s.parts[i]'h) → Calls Try.prog 8 #[.agg #[.int .i64 (s.parts[i]'h).kind, lv, pv]] w (RetB w fun lo hi w v => PtsB lo hi w v (ptsSh true d (s.parts[i]'h)))) :
    Calls Try.prog 8 #[.agg #[.int .i64 s.kind, lv, pv]] w (RetB w fun lo hi w v => PtsB lo hi w v (ptsSh true (d + 1) s)) := by
  obtain ⟨hls, a2, c2, rfl, _, hparts⟩ := hs
  obtain ⟨a1, c1, rfl, _, hget⟩ := hls.get
  have hdef : ptsSh true (d + 1) s = catTo (lstOf true s) s.lists.length ++ catTo (fun i => ptsSh true d (s.parts.getD i dsh)) s.parts.length := rfl
  rw [hdef]
  have hb1 : ∀ k, k ≤ s.lists.length → (catTo (lstOf true s) k).length ≤ 12000 := fun k hk => by
    have h1 := catTo_len (f := lstOf true s) (k := k) fun i hi => lstOf_len hn3 (by omega)
    have h2 : k * 300 ≤ 40 * 300 := Nat.mul_le_mul_right _ (by omega)
    omega
  have hb2 : ∀ k, k ≤ s.parts.length → (catTo (fun i => ptsSh true d (s.parts.getD i dsh)) k).length ≤ 40000000000 := fun k hk => by
    have h1 := catTo_len (f := fun i => ptsSh true d (s.parts.getD i dsh)) (k := k) (B := 1000000000) fun i hi => hn4 i (by omega)
    have h2 : k * 1000000000 ≤ 40 * 1000000000 := Nat.mul_le_mul_right _ (by omega)
    omega
  have Hget := Lib.hid hget
  have Hparts := Lib.hid hparts
  have Ih := Lib.hid ih
  have H3 := Lib.hid hn3
  have H4 := Lib.hid hn4
  have Hb1 := Lib.hid hb1
  have Hb2 := Lib.hid hb2
  clear hget hparts ih hls hn3 hn4 hb1 hb2 hdef
  obtain ⟨kd, hkd⟩ : ∃ k, s.kind = k := ⟨_, rfl⟩
  rw [hkd]
  have Hkd := Lib.hid hkd
  clear hkd
  obtain ⟨wb, hwb⟩ : ∃ x, x = w.alloc (.cells #[.int .i64 kd, .slice a1 s.lists.length c1, .slice a2 s.parts.length c2] 25) := ⟨_, rfl⟩
  have hkb : Kp w wb := by rw [hwb]; exact (by repeat (first | (with_reducible exact Kp.refl _) | (with_reducible assumption) | (with_reducible apply Kp.ext) | (with_reducible apply Kp.alloc) | (with_reducible apply Kp.drew) | (with_reducible apply Kp.drewN) | (with_reducible refine Kp.setCell ?_ (by first | (dsimp only; omega) | (simp; omega) | (simp; done) | (simp [size_ext_eq]; omega)) _)))
  have hsb : wb.heap.size = w.heap.size + 1 := by rw [hwb]; simp
  have hbx : Box3 wb w.heap.size (.int .i64 kd) (.slice a1 s.lists.length c1) (.slice a2 s.parts.length c2) := by rw [hwb]; exact Box3.new _ _ _ _ _
  have Hsb := Lib.hid hsb
  go_enter Try.func8, Try.ntmps8
  go_wp2_with fail
  rw [← hwb]
  rw [← hsb]
  clear hwb hsb
  go_loopw [3, 12] (fun s3 s12 wr => ∃ k : Nat, k ≤ s.lists.length ∧ s12 = .int .i64 k ∧ Kp wb wr ∧ OwnP wb.heap.size wr s3 (catTo (lstOf true s) k)) (fun _ s12 _ => s.lists.length - (intOf s12).toNat)
  case atStart => exact ⟨0, by omega, rfl, (by repeat (first | (with_reducible exact Kp.refl _) | (with_reducible assumption) | (with_reducible apply Kp.ext) | (with_reducible apply Kp.alloc) | (with_reducible apply Kp.drew) | (with_reducible apply Kp.drewN) | (with_reducible refine Kp.setCell ?_ (by first | (dsimp only; omega) | (simp; omega) | (simp; done) | (simp [size_ext_eq]; omega)) _))), ⟨World.ownsRow_lit wb #[] 0 (Nat.le_refl _) (by decide) rfl, _, rfl⟩⟩
  case round =>
    obtain ⟨k, hk, rfl, hkp, hown⟩ := hrel
    obtain ⟨hB, b0, b1, b2⟩ := hbx.kp hkp
    have hkw := hkb.trans hkp
    have Hown := Lib.hid hown
    clear hown
    by_cases hlt : k < s.lists.length
    · obtain ⟨b, off, a', cap', rfl, hb, hc, _, hin, hbits⟩ := Hget.out k hlt
      have hc' := Kp.cell hkw hc hb
      have hbr : b < wr.heap.size := Nat.lt_of_lt_of_le hb hkw.size
      have h300 := H3.out _ (List.getElem_mem hlt)
      have hin2 := hin.kp hkw
      have hnx : catTo (lstOf true s) (k + 1) = catTo (lstOf true s) k ++ lstOf true s k := rfl
      by_cases c3 : kd = 3 ∧ k ≠ 0
      · have hl0 : lstOf true s k = [] := by unfold lstOf; rw [if_pos ⟨rfl, Hkd.out.trans c3.1, c3.2⟩]
        rw [hl0, List.append_nil] at hnx
        have Hnx := Lib.hid hnx
        obtain ⟨rfl, c32⟩ := c3
        have hk0 : ((k : Int) = 0) = False := eq_false (by omega)
        have hk0' : ((k : Int) == 0) = false := beq_eq_false_iff_ne.2 (by omega)
        clear hnx hl0 hin hin2 hbits
        go_wp2_with fail
        go_roundw
        case rel => exact ⟨k + 1, by omega, by go_num, hkp, by rw [Hnx.out]; exact Hown.out⟩
        case measure => simp [intOf]; omega
      · have hl0 : lstOf true s k = s.lists[k]'hlt := by
          unfold lstOf
          rw [if_neg (fun h => c3 ⟨Hkd.out.symm.trans h.2.1, h.2.2⟩), getD_ls _ _ hlt]
        rw [hl0] at hnx
        have hkk : kd ≠ 3 ∨ k = 0 := by
          by_cases e : kd = 3
          · exact .inr (by by_cases e2 : k = 0
                           · exact e2
                           · exact absurd ⟨e, e2⟩ c3)
          · exact .inl e
        obtain ⟨ps, hps⟩ : ∃ ps, s.lists[k]'hlt = ps := ⟨_, rfl⟩
        rw [hps] at hc' hin2 h300 hnx
        have Hin := Lib.hid hin2
        have Hnx := Lib.hid hnx
        have hln := Hb1.out k hk
        clear hnx hl0 hin hin2 hbits hc hps c3
        have hcond : (kd == 3) = false ∨ (k : Int) = 0 := by
          rcases hkk with e | e
          · exact .inl (beq_eq_false_iff_ne.2 e)
          · exact .inr (by omega)
        rcases hcond with hcond | hcond
        · have hcond2 : (kd = 3) = False := eq_false (beq_eq_false_iff_ne.1 hcond)
          clear hkk
          go_wp2_with (at_builtin; refine wpList_append_pts rfl (.tmp 24) (.tmp 25) rfl wb.heap.size _ _ rfl (Hown.out.kp (by repeat (first | (with_reducible exact Kp.refl _) | (with_reducible assumption) | (with_reducible apply Kp.ext) | (with_reducible apply Kp.alloc) | (with_reducible apply Kp.drew) | (with_reducible apply Kp.drewN) | (with_reducible refine Kp.setCell ?_ (by first | (dsimp only; omega) | (simp; omega) | (simp; done) | (simp [size_ext_eq]; omega)) _)))) a' cap' ps rfl (Hin.out.kp (by repeat (first | (with_reducible exact Kp.refl _) | (with_reducible assumption) | (with_reducible apply Kp.ext) | (with_reducible apply Kp.alloc) | (with_reducible apply Kp.drew) | (with_reducible apply Kp.drewN) | (with_reducible refine Kp.setCell ?_ (by first | (dsimp only; omega) | (simp; omega) | (simp; done) | (simp [size_ext_eq]; omega)) _)))) (by omega) (by omega) hkp.size ?_)
          intro v' w1 hown1 hbel1
          have hk1 : Kp wb w1 := Below.trans hkp hbel1
          have Hown1 := Lib.hid hown1
          clear hown1 hbel1
          go_wp2_with fail
          go_roundw
          case rel => exact ⟨k + 1, by omega, by go_num, hk1, by rw [Hnx.out]; exact Hown1.out⟩
          case measure => simp [intOf]; omega
        · have hk0' : ((k : Int) == 0) = true := beq_iff_eq.2 hcond
          have hk0 : ((k : Int) = 0) = True := eq_true hcond
          clear hkk hcond
          by_cases e3 : kd = 3
          · subst e3
            go_wp2_with (at_builtin; refine wpList_append_pts rfl (.tmp 24) (.tmp 25) rfl wb.heap.size _ _ rfl (Hown.out.kp (by repeat (first | (with_reducible exact Kp.refl _) | (with_reducible assumption) | (with_reducible apply Kp.ext) | (with_reducible apply Kp.alloc) | (with_reducible apply Kp.drew) | (with_reducible apply Kp.drewN) | (with_reducible refine Kp.setCell ?_ (by first | (dsimp only; omega) | (simp; omega) | (simp; done) | (simp [size_ext_eq]; omega)) _)))) a' cap' ps rfl (Hin.out.kp (by repeat (first | (with_reducible exact Kp.refl _) | (with_reducible assumption) | (with_reducible apply Kp.ext) | (with_reducible apply Kp.alloc) | (with_reducible apply Kp.drew) | (with_reducible apply Kp.drewN) | (with_reducible refine Kp.setCell ?_ (by first | (dsimp only; omega) | (simp; omega) | (simp; done) | (simp [size_ext_eq]; omega)) _)))) (by omega) (by omega) hkp.size ?_)
            intro v' w1 hown1 hbel1
            have hk1 : Kp wb w1 := Below.trans hkp hbel1
            have Hown1 := Lib.hid hown1
            clear hown1 hbel1
            go_wp2_with fail
            go_roundw
            case rel => exact ⟨k + 1, by omega, by go_num, hk1, by rw [Hnx.out]; exact Hown1.out⟩
            case measure => simp [intOf]; omega
          · have hcond2 : (kd = 3) = False := eq_false e3
            have hcond3 : (kd == 3) = false := beq_eq_false_iff_ne.2 e3
            go_wp2_with (at_builtin; refine wpList_append_pts rfl (.tmp 24) (.tmp 25) rfl wb.heap.size _ _ rfl (Hown.out.kp (by repeat (first | (with_reducible exact Kp.refl _) | (with_reducible assumption) | (with_reducible apply Kp.ext) | (with_reducible apply Kp.alloc) | (with_reducible apply Kp.drew) | (with_reducible apply Kp.drewN) | (with_reducible refine Kp.setCell ?_ (by first | (dsimp only; omega) | (simp; omega) | (simp; done) | (simp [size_ext_eq]; omega)) _)))) a' cap' ps rfl (Hin.out.kp (by repeat (first | (with_reducible exact Kp.refl _) | (with_reducible assumption) | (with_reducible apply Kp.ext) | (with_reducible apply Kp.alloc) | (with_reducible apply Kp.drew) | (with_reducible apply Kp.drewN) | (with_reducible refine Kp.setCell ?_ (by first | (dsimp only; omega) | (simp; omega) | (simp; done) | (simp [size_ext_eq]; omega)) _)))) (by omega) (by omega) hkp.size ?_)
            intro v' w1 hown1 hbel1
            have hk1 : Kp wb w1 := Below.trans hkp hbel1
            have Hown1 := Lib.hid hown1
            clear hown1 hbel1
            go_wp2_with fail
            go_roundw
            case rel => exact ⟨k + 1, by omega, by go_num, hk1, by rw [Hnx.out]; exact Hown1.out⟩
            case measure => simp [intOf]; omega
    · obtain rfl : k = s.lists.length := by omega
      have hln := Hb1.out _ (Nat.le_refl _)
      go_wp2_with fail
      go_loopw [3, 31] (fun s3 sj wx => ∃ j : Nat, j ≤ s.parts.length ∧ sj = .int .i64 j ∧ Kp wb wx ∧ OwnP wb.heap.size wx s3 (catTo (lstOf true s) s.lists.length ++ catTo (fun i => ptsSh true d (s.parts.getD i dsh)) j)) (fun _ sj _ => s.parts.length - (intOf sj).toNat)
      case atStart => exact ⟨0, by omega, rfl, hkp, by
        show OwnP _ _ _ (catTo (lstOf true s) s.lists.length ++ [])
        rw [List.append_nil]; exact Hown.out⟩
      case round =>
        obtain ⟨j, hj, rfl, hkx, hown2⟩ := hrel
        obtain ⟨hB', b0', b1', b2'⟩ := hbx.kp hkx
        have Hown2 := Lib.hid hown2
        clear hown2
        by_cases hlt2 : j < s.parts.length
        · obtain ⟨b, off, rfl, hb, hcell⟩ : ∃ b off, a2 = some ⟨b, off, none⟩ ∧ b < w.heap.size ∧ ∀ (i : Nat) (h : i < s.parts.length), ∃ lv' pv', w.cell? ⟨b, off + i * 3, none⟩ = some (.int .i64 (s.parts[i]'h).kind) ∧
              w.cell? ⟨b, off + i * 3 + 1, none⟩ = some lv' ∧ w.cell? ⟨b, off + i * 3 + 2, none⟩ = some pv' ∧ ShIn d w lv' pv' (s.parts[i]'h) := by
            rcases Hparts.out with h | h
            · rw [h] at hlt2; simp at hlt2
            · exact h
          obtain ⟨lv', pv', g0, g1, g2, g3⟩ := hcell j hlt2
          obtain ⟨⟨a3, n3, c3, rfl⟩, a4, n4, c4, rfl⟩ := g3.form
          have hkq := hkb.trans hkx
          have g0 := Kp.cell hkq g0 hb
          have g1 := Kp.cell hkq g1 hb
          have g2 := Kp.cell hkq g2 hb
          have hbx2 := Nat.lt_of_lt_of_le hb hkq.size
          have hI := fun w' (hk' : Kp _ w') => Ih.out j hlt2 _ _ w' ((g3.kp hkq).kp hk')
          have hgd := getD_sh s.parts j hlt2
          have hnx : catTo (fun i => ptsSh true d (s.parts.getD i dsh)) (j + 1) = catTo (fun i => ptsSh true d (s.parts.getD i dsh)) j ++ ptsSh true d (s.parts.getD j dsh) := rfl
          have h4 := H4.out j hlt2
          have hl2 := Hb2.out j hj
          rw [hgd] at hnx h4
          obtain ⟨q, hq⟩ : ∃ q, s.parts[j]'hlt2 = q := ⟨_, rfl⟩
          simp only [hq] at g0 hI hnx h4
          have HI := Lib.hid hI
          have Hnx := Lib.hid hnx
          obtain ⟨qs, hqs⟩ : ∃ qs, ptsSh true d q = qs := ⟨_, rfl⟩
          rw [hqs] at h4 Hnx HI
          have hlsum : (catTo (lstOf true s) s.lists.length ++ catTo (fun i => ptsSh true d (s.parts.getD i dsh)) j).length ≤ 50000000000 := by rw [List.length_append]; omega
          clear hq hgd g3 hcell hI hnx hqs
          go_wp2_with (first | (go_at_call 8; (with_reducible refine (HI.out _ (by repeat (first | (with_reducible exact Kp.refl _) | (with_reducible assumption) | (with_reducible apply Kp.ext) | (with_reducible apply Kp.alloc) | (with_reducible apply Kp.drew) | (with_reducible apply Kp.drewN) | (with_reducible refine Kp.setCell ?_ (by first | (dsimp only; omega) | (simp; omega) | (simp; done) | (simp [size_ext_eq]; omega)) _)))).mono ?_); rintro e w1 ⟨vq, u, rfl, rfl, hpb⟩; obtain ⟨aq, capq, rfl, hinq⟩ := hpb.ptsIn; have Hinq := Lib.hid hinq; clear hinq hpb) | (at_builtin; refine wpList_append_pts rfl (.tmp 35) (.tmp 37) rfl wb.heap.size _ _ rfl (Hown2.out.kp (by repeat (first | (with_reducible exact Kp.refl _) | (with_reducible assumption) | (with_reducible apply Kp.ext) | (with_reducible apply Kp.alloc) | (with_reducible apply Kp.drew) | (with_reducible apply Kp.drewN) | (with_reducible refine Kp.setCell ?_ (by first | (dsimp only; omega) | (simp; omega) | (simp; done) | (simp [size_ext_eq]; omega)) _)))) aq capq qs rfl (Hinq.out.kp (by repeat (first | (with_reducible exact Kp.refl _) | (with_reducible assumption) | (with_reducible apply Kp.ext) | (with_reducible apply Kp.alloc) | (with_reducible apply Kp.drew) | (with_reducible apply Kp.drewN) | (with_reducible refine Kp.setCell ?_ (by first | (dsimp only; omega) | (simp; omega) | (simp; done) | (simp [size_ext_eq]; omega)) _)))) (by omega) (by omega) ?sz ?_))
          case sz => exact Nat.le_trans hkx.size (Kp.size (show Kp _ _ from (by repeat (first | (with_reducible exact Kp.refl _) | (with_reducible assumption) | (with_reducible apply Kp.ext) | (with_reducible apply Kp.alloc) | (with_reducible apply Kp.drew) | (with_reducible apply Kp.drewN) | (with_reducible refine Kp.setCell ?_ (by first | (dsimp only; omega) | (simp; omega) | (simp; done) | (simp [size_ext_eq]; omega)) _)))))
          intro v' w1 hown1 hbel1
          have hk1 : Kp wb w1 := Below.trans (hkx.trans (by repeat (first | (with_reducible exact Kp.refl _) | (with_reducible assumption) | (with_reducible apply Kp.ext) | (with_reducible apply Kp.alloc) | (with_reducible apply Kp.drew) | (with_reducible apply Kp.drewN) | (with_reducible refine Kp.setCell ?_ (by first | (dsimp only; omega) | (simp; omega) | (simp; done) | (simp [size_ext_eq]; omega)) _)))) hbel1
          have Hown1 := Lib.hid hown1
          clear hown1 hbel1
          go_wp2_with fail
          go_roundw
          case rel => exact ⟨j + 1, by omega, by go_num, hk1, by rw [Hnx.out]; exact Hown1.out⟩
          case measure => simp [intOf]; omega
        · obtain rfl : j = s.parts.length := by omega
          have hkq := hkb.trans hkx
          go_wp2_with fail
          go_ret
          refine ⟨_, _, rfl, ext_of hkq, ?_⟩
          exact PtsB.mono Hown2.out.ptsB (by have := Hsb.out; omega) (by first | exact Nat.le_refl _ | simp)
theorem specOuter_c : ∀ (d : Nat) (s : Sh) (lv pv : Value) (w : World), d ≤ 4 → ShIn d w lv pv s → cntOk d s = true → Small d s → Calls Try.prog 8 #[.agg #[.int .i64 s.kind, lv, pv]] w (RetB w fun lo hi w v => PtsB lo hi w v (ptsSh true d s))
  | 0, _, _, _, _, _, _, h, _ => by cases h
  | d + 1, s, lv, pv, w, hd, hs, hok, hsm => by
    obtain ⟨h1, h2, _⟩ := cntOk_parts hok
    obtain ⟨_, _, k3, k4⟩ := shHead_spec h1
    refine specOuter_c_step d s lv pv w hs k3 k4 hsm.1 (fun i hi => ?_) fun i h lv pv w hs => specOuter_c d _ lv pv w (by omega) hs (h2 _ (List.getElem_mem h)).1 (hsm.2 _ (List.getElem_mem h))
    have hm : s.parts.getD i dsh ∈ s.parts := by rw [getD_sh _ _ hi]; exact List.getElem_mem hi
    have h5 := ptsSh_len (o := true) (h2 _ hm).1 (hsm.2 _ hm)
    have h6 : 41 ^ d ≤ 41 ^ 3 := Nat.pow_le_pow_right (by decide) (by omega)
    omega
end Go.Proofs.Ytciaeknfgdckbaa
