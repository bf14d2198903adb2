/-
  impl.polygonShape.
-/
import Derived.Test.YtobdohhabgnjiaaGreatDoorListOf
import Derived.Test.YtobdohhabgnjiaaGreatDoorStep
set_option linter.all false
namespace Go.Proofs.YtobdohhabgnjiaaGreatDoor
open PubFl Go.RowKit

attribute [local go_sem] cell_ext frozen_ext ext_setCell cell_store size_ext_eq lt_p0 lt_p1 lt_p2 lt_p3 lt_p4 lt_p5 lt_p6 lt_p7 lt_p8 lt_p9 lt_p10 lt_p11 lt_p12 lt_p13 lt_p14 lt_p15 lt_p16 lt_p17 lt_p18 lt_p19 lt_p20 lt_p21 lt_p22 lt_p23 lt_p24 lt_p25 lt_p26 lt_p27 lt_p28 lt_p29 lt_p30 lt_p31 lt_p32 lt_q1 lt_q2 lt_q3 lt_q4 lt_q5 lt_q6 lt_q7 lt_q8 lt_q9 lt_q10 lt_q11 lt_q12 lt_q13 lt_q14 lt_q15 lt_q16 lt_q17 lt_q18 lt_q19 lt_q20 lt_q21 lt_q22 lt_q23 lt_q24 lt_q25 lt_q26 lt_q27 lt_q28 lt_q29 lt_q30 lt_q31 lt_q32 run_fop run_store_float
attribute [local go_sem high] cmp_eql cmp_neq cmp_lss cmp_leq cmp_gtr cmp_geq

theorem own_pos {w : World} {base : Nat} {e : TypeId} {size : Nat} {v : Value} {n : Nat} {xs : List Value} (h : w.ownsRow base e size v (n + 1) xs) : ∃ g cap, v = .slice (some ⟨g, 0, none⟩) (n + 1) cap := by
  rcases h.2 with ⟨_, h'⟩ | ⟨g, cap, _, hv, _⟩
  · omega
  · exact ⟨g, cap, hv⟩
theorem own_slc {w : World} {base : Nat} {e : TypeId} {size : Nat} {v : Value} {n : Nat} {xs : List Value} (h : w.ownsRow base e size v n xs) : ∃ a m c, v = .slice a m c := by
  rcases h.2 with ⟨h, _⟩ | ⟨g, cap, _, hv, _⟩
  · exact ⟨_, _, _, h⟩
  · exact ⟨_, _, _, hv⟩
theorem infoPts : (Tryz.prog.info? 60).map (fun i => (i.zero, i.size, i.bytes)) = some (some (.slice none 0 0), 1, 24) := by kernel_rfl

set_option maxRecDepth 20000 in
set_option maxHeartbeats 2000000 in
theorem polygonShape_c (lo hi : Nat) (v : Value) (ls : List (List (Nat × Nat))) (hn : ls.length ≤ 40) (hns : ∀ l ∈ ls, l.length ≤ 300) (w : World) (hs : ListsB ls lo hi w v) :
    Calls Tryz.prog 43 #[v] w (RetSh 1 (.mk 3 ls []) w) := by
  obtain ⟨i0, hi, hz0, hz1, hz2⟩ := info_parts infoPts
  obtain ⟨g, cap, rfl, _, _, hg, _, _, hel⟩ := hs
  have Hel := Lib.hid hel
  have Hns := Lib.hid hns
  clear hel hns
  go_enter Tryz.func43, Tryz.ntmps43
  go_wp2_with fail
  go_loopw [9] (fun s9 wr => ∃ (k : Nat) (rv : Value) (xs : List Value), k ≤ ls.length ∧ s9 = .int .i64 k ∧ Kp w wr ∧ BoxS wr w.heap.size (.int .i64 0) (.slice none 0 0) (.slice none 0 0) ∧ BoxS wr (w.heap.size + 1) (.int .i64 3) rv (.slice none 0 0) ∧
    RowsQ (ListE ls) 60 (w.heap.size + 1 + 1) wr rv k xs) (fun s9 _ => ls.length - (intOf s9).toNat)
  case atStart => exact ⟨0, _, [], by omega, rfl, (by repeat (first | (with_reducible exact Kp.refl _) | (with_reducible assumption) | (with_reducible apply Kp.ext) | (with_reducible apply Kp.alloc) | (with_reducible apply Kp.drew) | (with_reducible apply Kp.drewN) | (with_reducible refine Kp.setCell ?_ (by first | (dsimp only; omega) | (simp; omega) | (simp; done) | (simp [size_ext_eq]; omega)) _))), (BoxS.new rfl _ _ _ _).kp (by repeat (first | (with_reducible exact Kp.refl _) | (with_reducible assumption) | (with_reducible apply Kp.ext) | (with_reducible apply Kp.alloc) | (with_reducible apply Kp.drew) | (with_reducible apply Kp.drewN) | (with_reducible refine Kp.setCell ?_ (by first | (dsimp only; omega) | (simp; omega) | (simp; done) | (simp [size_ext_eq]; omega)) _))), BoxS.new (by simp) _ _ _ _, RowsQ.start _ _ _ _⟩
  case round =>
    obtain ⟨k, rv, xs, hkn, rfl, hkp, box1, box2, hrow⟩ := hrel
    by_cases hlt : k < ls.length
    · obtain ⟨x, l, h, hc, hx, _, _, hh, _⟩ := Hel.out k hlt
      obtain ⟨a, capx, rfl, hin⟩ := PtsB.ptsIn hx
      have hc := Kp.cell hkp hc hg
      have hgr := Nat.lt_of_lt_of_le hg hkp.size
      have h300 : (ls.getD k []).length ≤ 300 := by rw [getD_ls _ _ hlt]; exact Hns.out _ (List.getElem_mem hlt)
      have hp := Lib.hid (fun w' (hk : Kp w w') => listB_c a capx (ls.getD k []) (by omega) w' (hin.kp hk))
      have hsz := hkp.size
      have Hrow := Lib.hid hrow
      have hown := hrow.own
      have Box1 := Lib.hid box1
      have Box2 := Lib.hid box2
      obtain ⟨ps, hps⟩ : ∃ ps, ls.getD k [] = ps := ⟨_, rfl⟩
      rw [hps] at hc hp
      have Hps := Lib.hid hps
      obtain ⟨B1, q0, q1, q2, qz⟩ := id box2
      have z1 := qz 1
      clear hrow hin hx h300 hps box1 box2 qz
      go_wp2_with fail
      obtain ⟨nr, hnr⟩ : ∃ n, n = w.heap.size + 1 := ⟨_, rfl⟩
      have r1 : ∀ u, (ext wr.drew u).cell? ⟨w.heap.size + 1, 1, none⟩ = some rv := fun u => (Box2.out.kp (show Kp wr _ from (by repeat (first | (with_reducible exact Kp.refl _) | (with_reducible assumption) | (with_reducible apply Kp.ext) | (with_reducible apply Kp.alloc) | (with_reducible apply Kp.drew) | (with_reducible apply Kp.drewN) | (with_reducible refine Kp.setCell ?_ (by first | (dsimp only; omega) | (simp; omega) | (simp; done) | (simp [size_ext_eq]; omega)) _))))).c1
      have r2 : ∀ u o, ((ext wr.drew u).alloc o).cell? ⟨w.heap.size + 1, 1, none⟩ = some rv := fun u o => (Box2.out.kp (show Kp wr _ from (by repeat (first | (with_reducible exact Kp.refl _) | (with_reducible assumption) | (with_reducible apply Kp.ext) | (with_reducible apply Kp.alloc) | (with_reducible apply Kp.drew) | (with_reducible apply Kp.drewN) | (with_reducible refine Kp.setCell ?_ (by first | (dsimp only; omega) | (simp; omega) | (simp; done) | (simp [size_ext_eq]; omega)) _))))).c1
      clear hnr nr
      go_region_law (first
        | (go_simp; go_at_call 42; (with_reducible refine (hp.out _ (by repeat (first | (with_reducible exact Kp.refl _) | (with_reducible assumption) | (with_reducible apply Kp.ext) | (with_reducible apply Kp.alloc) | (with_reducible apply Kp.drew) | (with_reducible apply Kp.drewN) | (with_reducible refine Kp.setCell ?_ (by first | (dsimp only; omega) | (simp; omega) | (simp; done) | (simp [size_ext_eq]; omega)) _)))).mono ?_); rintro e w1 ⟨v, u, rfl, rfl, hpb⟩; obtain ⟨g2, cap2, rfl, _⟩ := id hpb; have Hpb := Lib.hid hpb; clear hpb)
        | (refine step_append_own2 rfl (.tmp 14) (.tmp 17) 28 rfl (w.heap.size + 1 + 1) 60 i0 (.slice none 0 0) 1 24 Tryz.underlying28 hi hz0 hz1 hz2 rfl (by decide) rv k xs (by first | rfl | (simp [Act.eval, Act.put]; done)) ((own_kp hown (by repeat (first | (with_reducible exact Kp.refl _) | (with_reducible assumption) | (with_reducible apply Kp.ext) | (with_reducible apply Kp.alloc) | (with_reducible apply Kp.drew) | (with_reducible apply Kp.drewN) | (with_reducible refine Kp.setCell ?_ (by first | (dsimp only; omega) | (simp; omega) | (simp; done) | (simp [size_ext_eq]; omega)) _)))).alloc _) ⟨wr.heap.size + dz wr.heap.size u, 0, none⟩ 1 1 [.slice (some ⟨g2, 0, none⟩) ps.length cap2] (by first | rfl | (simp [Act.eval, Act.put]; done)) rfl (lit1 (by simp [size_ext_eq])) (fun u hu => by simp at hu; subst hu; rfl) (by unfold maxLen; omega) (by omega) (by first | (simp [size_ext_eq]; done) | (simp [size_ext_eq]; omega)) ?_
           intro v' w1 hown1 hgrow1 hblk
           have hbx := BoxS.grown (Box2.out.kp (by repeat (first | (with_reducible exact Kp.refl _) | (with_reducible assumption) | (with_reducible apply Kp.ext) | (with_reducible apply Kp.alloc) | (with_reducible apply Kp.drew) | (with_reducible apply Kp.drewN) | (with_reducible refine Kp.setCell ?_ (by first | (dsimp only; omega) | (simp; omega) | (simp; done) | (simp [size_ext_eq]; omega)) _)))) hgrow1 (fun h => by have := (own_lt hown h).1; omega)
           obtain ⟨g3, cap3, rfl⟩ := own_pos hown1
           have q1' := hbx.c1
           have z1' := hbx.z 1
           have Hbx := Lib.hid hbx
           have Hown1 := Lib.hid hown1
           have Hgrow1 := Lib.hid hgrow1
           have Hblk := Lib.hid hblk
           clear hbx hown1 hgrow1 hblk))
      all_goals
        have hk2 : Kp wr ((ext wr.drew u).alloc (.cells #[.slice (some ⟨g2, 0, none⟩) ps.length cap2] 60)) := (by repeat (first | (with_reducible exact Kp.refl _) | (with_reducible assumption) | (with_reducible apply Kp.ext) | (with_reducible apply Kp.alloc) | (with_reducible apply Kp.drew) | (with_reducible apply Kp.drewN) | (with_reducible refine Kp.setCell ?_ (by first | (dsimp only; omega) | (simp; omega) | (simp; done) | (simp [size_ext_eq]; omega)) _)))
        have hkw : Kp w w1 := Below.grown (hkp.trans hk2) Hgrow1.out (Kp.size (hkp.trans hk2)) (fun q hq => by have := (own_lt hown hq).1; omega)
        have hx : ListE ls k wr.heap.size (ext wr.drew u).heap.size ((ext wr.drew u).alloc (.cells #[.slice (some ⟨g2, 0, none⟩) ps.length cap2] 60)) (.slice (some ⟨g2, 0, none⟩) ps.length cap2) := by
          unfold ListE
          rw [Hps.out]
          exact PtsB.keep Hpb.out (Agree.of_kp ((Kp.refl _).alloc _) (Nat.le_refl _))
        have HR := Lib.hid ((RowsQ.step (keep_list ls) Hrow.out hk2 hx (by omega) (Nat.le_refl _) (by simp) Hown1.out Hgrow1.out Hblk.out).other (keep_list ls) (w' := w1.setCell ⟨w.heap.size + 1, 1, none⟩ (.slice (some ⟨g3, 0, none⟩) (k + 1) cap3)) (fun b hb => Below.heap_setCell _ _ _ _ (by dsimp only; omega)) (by simp))
        have hb1 := ((Box1.out.kp hk2).grown Hgrow1.out (fun h => by have := (own_lt hown h).1; omega)).oth (k := w.heap.size + 1) (by omega) 1 (.slice (some ⟨g3, 0, none⟩) (k + 1) cap3)
        have hb2 := Hbx.out.set1 (.slice (some ⟨g3, 0, none⟩) (k + 1) cap3)
        have Hb1 := Lib.hid hb1
        have Hb2 := Lib.hid hb2
        clear hx hb1 hb2 hk2 r1 r2 hown hc q0 q1 q2 z1 q1' z1'
        go_wp2_with fail
        go_roundw
        case rel => exact ⟨k + 1, _, _, by omega, by go_num, (by repeat (first | (with_reducible exact Kp.refl _) | (with_reducible assumption) | (with_reducible apply Kp.ext) | (with_reducible apply Kp.alloc) | (with_reducible apply Kp.drew) | (with_reducible apply Kp.drewN) | (with_reducible refine Kp.setCell ?_ (by first | (dsimp only; omega) | (simp; omega) | (simp; done) | (simp [size_ext_eq]; omega)) _))), Hb1.out, Hb2.out, HR.out⟩
        case measure => simp [intOf]; omega
    · obtain rfl : k = ls.length := by omega
      obtain ⟨A1, p0, p1, p2, pz⟩ := id box1
      obtain ⟨B1, q0, q1, q2, qz⟩ := id box2
      have z0 := pz 0
      have z1 := pz 1
      have z2 := pz 2
      obtain ⟨ar, nr, cr, rfl⟩ := own_slc hrow.own
      have Hrow := Lib.hid hrow
      have Box1 := Lib.hid (((box1.set0 (.int .i64 3)).set1 (.slice ar nr cr)).set2 (.slice none 0 0))
      clear hrow pz qz box1 box2
      go_wp2_with fail
      have hb := Box1.out
      obtain ⟨_, e0, e1, e2, _⟩ := hb
      refine bodyPost_ret (v := .agg #[.int .i64 3, .slice ar nr cr, .slice none 0 0]) (by simp [results, Tryz.results43, go_sem, e0, e1, e2]) rfl ⟨_, _, _, rfl, ext_of ?_, ?_⟩
      · show Kp w _
        exact (by repeat (first | (with_reducible exact Kp.refl _) | (with_reducible assumption) | (with_reducible apply Kp.ext) | (with_reducible apply Kp.alloc) | (with_reducible apply Kp.drew) | (with_reducible apply Kp.drewN) | (with_reducible refine Kp.setCell ?_ (by first | (dsimp only; omega) | (simp; omega) | (simp; done) | (simp [size_ext_eq]; omega)) _)))
      · have hr := (Hrow.out.other (keep_list ls) (w' := ((wr.setCell ⟨w.heap.size, 0, none⟩ (.int .i64 3)).setCell ⟨w.heap.size, 1, none⟩ (.slice ar nr cr)).setCell ⟨w.heap.size, 2, none⟩ (.slice none 0 0)) (fun b hb => by
          rw [Below.heap_setCell _ _ _ _ (by dsimp only; omega), Below.heap_setCell _ _ _ _ (by dsimp only; omega), Below.heap_setCell _ _ _ _ (by dsimp only; omega)]) (by simp)).done
        refine ⟨?_, .inl ⟨rfl, rfl⟩⟩
        rcases hr with ⟨h1, h2⟩ | hr
        · exact .inl ⟨List.eq_nil_of_length_eq_zero h1, h2⟩
        · exact .inr (RowB.mono hr (by omega) (Nat.le_refl _))
end Go.Proofs.YtobdohhabgnjiaaGreatDoor
