/-
  spec.SameShape of a shape and one that holds the same: true.
-/
import Derived.Test.YtobdohhabgnjiaaGreatDoorSpecEq
import Derived.Test.YtobdohhabgnjiaaGreatDoorRev
set_option linter.all false
namespace Go.Proofs.YtobdohhabgnjiaaGreatDoor
open PubFl Go.RowKit

attribute [local go_sem] cell_ext frozen_ext ext_setCell cell_store size_ext_eq lt_p0 lt_p1 lt_p2 lt_p3 lt_p4 lt_p5 lt_p6 lt_p7 lt_p8 lt_p9 lt_p10 lt_p11 lt_p12 lt_p13 lt_p14 lt_p15 lt_p16 lt_p17 lt_p18 lt_p19 lt_p20 lt_p21 lt_p22 lt_p23 lt_p24 lt_p25 lt_p26 lt_p27 lt_p28 lt_p29 lt_p30 lt_p31 lt_p32 lt_q1 lt_q2 lt_q3 lt_q4 lt_q5 lt_q6 lt_q7 lt_q8 lt_q9 lt_q10 lt_q11 lt_q12 lt_q13 lt_q14 lt_q15 lt_q16 lt_q17 lt_q18 lt_q19 lt_q20 lt_q21 lt_q22 lt_q23 lt_q24 lt_q25 lt_q26 lt_q27 lt_q28 lt_q29 lt_q30 lt_q31 lt_q32 run_fop run_store_float
attribute [local go_sem high] cmp_eql cmp_neq cmp_lss cmp_leq cmp_gtr cmp_geq

set_option maxRecDepth 100000 in
set_option maxHeartbeats 4000000 in
theorem sameShape_step (d : Nat) (s : Sh) (lv pv lv' pv' : Value) (w : World) (ha : ShIn (d + 1) w lv pv s) (hb : ShIn (d + 1) w lv' pv' s) (hn1 : s.lists.length ≤ 40) (hn2 : s.parts.length ≤ 40) (hn3 : ∀ l ∈ s.lists, l.length ≤ 300)
    (ih : ∀ (i : Nat) (h : i < s.parts.length) (lv pv lv' pv' : Value) (w : World), ShIn d w lv pv (s.parts[i]'h) → ShIn d w lv' pv' (s.parts[i]'h) → Calls Tryz.prog 10 #[.agg #[.int .i64 (s.parts[i]'h).kind, lv, pv], .agg #[.int .i64 (s.parts[i]'h).kind, lv', pv']] w (Ret w (.bool true))) :
    Calls Tryz.prog 10 #[.agg #[.int .i64 s.kind, lv, pv], .agg #[.int .i64 s.kind, lv', pv']] w (Ret w (.bool true)) := by
  obtain ⟨hla, a2, c2, rfl, hpa, hparts⟩ := ha
  obtain ⟨a1, c1, rfl, hna, hget⟩ := hla.get
  obtain ⟨hlb, b2, d2, rfl, hpb, hparts'⟩ := hb
  obtain ⟨b1, d1, rfl, hnb, hget'⟩ := hlb.get
  have Hget := Lib.hid hget
  have Hparts := Lib.hid hparts
  have Hget' := Lib.hid hget'
  have Hparts' := Lib.hid hparts'
  have Ih := Lib.hid ih
  have Hn3 := Lib.hid hn3
  clear hget hparts hget' hparts' hla hlb ih hpa hpb hna hnb hn3
  obtain ⟨ka, hka⟩ : ∃ k, s.kind = k := ⟨_, rfl⟩
  rw [hka]
  clear hka
  go_enter Tryz.func10, Tryz.ntmps10
  go_wp2_with fail
  go_loopw [33] (fun s33 wr => ∃ k : Nat, k ≤ s.lists.length ∧ s33 = .int .i64 k ∧ Kp w wr ∧ Box3 wr w.heap.size (.int .i64 ka) (.slice a1 s.lists.length c1) (.slice a2 s.parts.length c2) ∧ Box3 wr (w.heap.size + 1) (.int .i64 ka) (.slice b1 s.lists.length d1) (.slice b2 s.parts.length d2)) (fun s33 _ => s.lists.length - (intOf s33).toNat)
  case atStart => exact ⟨0, by omega, rfl, (by repeat (first | (with_reducible exact Kp.refl _) | (with_reducible assumption) | (with_reducible apply Kp.ext) | (with_reducible apply Kp.alloc) | (with_reducible apply Kp.drew) | (with_reducible apply Kp.drewN) | (with_reducible refine Kp.setCell ?_ (by first | (dsimp only; omega) | (simp; omega) | (simp; done) | (simp [size_ext_eq]; omega)) _))), (Box3.new _ _ _ _ _).kp (by repeat (first | (with_reducible exact Kp.refl _) | (with_reducible assumption) | (with_reducible apply Kp.ext) | (with_reducible apply Kp.alloc) | (with_reducible apply Kp.drew) | (with_reducible apply Kp.drewN) | (with_reducible refine Kp.setCell ?_ (by first | (dsimp only; omega) | (simp; omega) | (simp; done) | (simp [size_ext_eq]; omega)) _))), Box3.new' (by simp) _ _ _ _⟩
  case round =>
    obtain ⟨k, hk, rfl, hkp, hbox, hbox2⟩ := hrel
    obtain ⟨hB, q0, q1, q2⟩ := id hbox
    obtain ⟨hB', q0', q1', q2'⟩ := id hbox2
    by_cases hlt : k < s.lists.length
    · obtain ⟨L, off, a', cap', rfl, hL, hc, hn1', hin, _⟩ := Hget.out k hlt
      obtain ⟨L', off', b', cap2', rfl, hL', hc2, hn2', hin2, _⟩ := Hget'.out k hlt
      have hc := Kp.cell hkp hc hL
      have hc2 := Kp.cell hkp hc2 hL'
      have hLr : L < wr.heap.size := Nat.lt_of_lt_of_le hL hkp.size
      have hLr' : L' < wr.heap.size := Nat.lt_of_lt_of_le hL' hkp.size
      have h300 := Hn3.out _ (List.getElem_mem hlt)
      have hS := fun w' (hk' : Kp w w') => samePts_c a' b' cap' cap2' (s.lists[k]'hlt) (by omega) w' (hin.kp hk') (hin2.kp hk')
      obtain ⟨ps, hps⟩ : ∃ ps, s.lists[k]'hlt = ps := ⟨_, rfl⟩
      rw [hps] at hc hc2 hS
      have HS := Lib.hid hS
      have hlt1 : (k : Int) < (s.lists.length : Int) := by omega
      clear hps hin hin2 hn1' hn2' hS h300
      go_wp2_with fail
      first | (with_reducible refine wp_region_ext_lit2 ?_ ?_ ?_) | refine wp_region_ext_lit ?_ ?_ ?_
      kernel_rfl
      kernel_rfl
      repeat (go_big_quiet_step (first | (go_at_call 28; with_reducible exact Ret.quiet (HS.out _ (by repeat (first | (with_reducible exact Kp.refl _) | (with_reducible assumption) | (with_reducible apply Kp.ext) | (with_reducible apply Kp.alloc) | (with_reducible apply Kp.drew) | (with_reducible apply Kp.drewN) | (with_reducible refine Kp.setCell ?_ (by first | (dsimp only; omega) | (simp; omega) | (simp; done) | (simp [size_ext_eq]; omega)) _)))))))
      refine wpQuiet_nil ?_
      rintro _ ⟨u, rfl⟩
      go_wp2_with fail
      go_roundw
      case rel => exact ⟨k + 1, by omega, by go_num, (by repeat (first | (with_reducible exact Kp.refl _) | (with_reducible assumption) | (with_reducible apply Kp.ext) | (with_reducible apply Kp.alloc) | (with_reducible apply Kp.drew) | (with_reducible apply Kp.drewN) | (with_reducible refine Kp.setCell ?_ (by first | (dsimp only; omega) | (simp; omega) | (simp; done) | (simp [size_ext_eq]; omega)) _))), hbox.kp (by repeat (first | (with_reducible exact Kp.refl _) | (with_reducible assumption) | (with_reducible apply Kp.ext) | (with_reducible apply Kp.alloc) | (with_reducible apply Kp.drew) | (with_reducible apply Kp.drewN) | (with_reducible refine Kp.setCell ?_ (by first | (dsimp only; omega) | (simp; omega) | (simp; done) | (simp [size_ext_eq]; omega)) _))), hbox2.kp (by repeat (first | (with_reducible exact Kp.refl _) | (with_reducible assumption) | (with_reducible apply Kp.ext) | (with_reducible apply Kp.alloc) | (with_reducible apply Kp.drew) | (with_reducible apply Kp.drewN) | (with_reducible refine Kp.setCell ?_ (by first | (dsimp only; omega) | (simp; omega) | (simp; done) | (simp [size_ext_eq]; omega)) _)))⟩
      case measure => simp [intOf]; omega
    · obtain rfl : k = s.lists.length := by omega
      go_wp2_with fail
      go_loopw [52] (fun s52 wx => ∃ j : Nat, j ≤ s.parts.length ∧ s52 = .int .i64 j ∧ Kp wr wx) (fun s52 _ => s.parts.length - (intOf s52).toNat)
      case atStart => exact ⟨0, by omega, rfl, (by repeat (first | (with_reducible exact Kp.refl _) | (with_reducible assumption) | (with_reducible apply Kp.ext) | (with_reducible apply Kp.alloc) | (with_reducible apply Kp.drew) | (with_reducible apply Kp.drewN) | (with_reducible refine Kp.setCell ?_ (by first | (dsimp only; omega) | (simp; omega) | (simp; done) | (simp [size_ext_eq]; omega)) _)))⟩
      case round =>
        obtain ⟨j, hj, rfl, hkx⟩ := hrel
        have hkz := hkp.trans hkx
        by_cases hlt2 : j < s.parts.length
        · obtain ⟨p, po, rfl, hp, hcell⟩ : ∃ b off, a2 = some ⟨b, off, none⟩ ∧ b < w.heap.size ∧ ∀ (i : Nat) (h : i < s.parts.length), ∃ lv' pv', w.cell? ⟨b, off + i * 3, none⟩ = some (.int .i64 (s.parts[i]'h).kind) ∧
              w.cell? ⟨b, off + i * 3 + 1, none⟩ = some lv' ∧ w.cell? ⟨b, off + i * 3 + 2, none⟩ = some pv' ∧ ShIn d w lv' pv' (s.parts[i]'h) := by
            rcases Hparts.out with h | h
            · rw [h] at hlt2; simp at hlt2
            · exact h
          obtain ⟨p', po', rfl, hp', hcell'⟩ : ∃ b' off, b2 = some ⟨b', off, none⟩ ∧ b' < w.heap.size ∧ ∀ (i : Nat) (h : i < s.parts.length), ∃ lv' pv', w.cell? ⟨b', off + i * 3, none⟩ = some (.int .i64 (s.parts[i]'h).kind) ∧
              w.cell? ⟨b', off + i * 3 + 1, none⟩ = some lv' ∧ w.cell? ⟨b', off + i * 3 + 2, none⟩ = some pv' ∧ ShIn d w lv' pv' (s.parts[i]'h) := by
            rcases Hparts'.out with h | h
            · rw [h] at hlt2; simp at hlt2
            · exact h
          obtain ⟨lv', pv', g0, g1, g2, g3⟩ := hcell j hlt2
          obtain ⟨lw', pw', h0, h1, h2, h3⟩ := hcell' j hlt2
          obtain ⟨⟨a3, n3, c3, rfl⟩, a4, n4, c4, rfl⟩ := g3.form
          obtain ⟨⟨a5, n5, c5, rfl⟩, a6, n6, c6, rfl⟩ := h3.form
          have g0 := Kp.cell hkz g0 hp
          have g1 := Kp.cell hkz g1 hp
          have g2 := Kp.cell hkz g2 hp
          have h0 := Kp.cell hkz h0 hp'
          have h1 := Kp.cell hkz h1 hp'
          have h2 := Kp.cell hkz h2 hp'
          have hpx := Nat.lt_of_lt_of_le hp hkz.size
          have hpx' := Nat.lt_of_lt_of_le hp' hkz.size
          have hI := fun w' (hk' : Kp _ w') => Ih.out j hlt2 _ _ _ _ w' ((g3.kp hkz).kp hk') ((h3.kp hkz).kp hk')
          obtain ⟨q, hq⟩ : ∃ q, s.parts[j]'hlt2 = q := ⟨_, rfl⟩
          simp only [hq] at g0 h0 hI
          obtain ⟨hX, x0, x1, x2⟩ := hbox.kp hkx
          obtain ⟨hY, y0, y1, y2⟩ := hbox2.kp hkx
          have hj3 : (j : Int) < (s.parts.length : Int) := by omega
          have HI := Lib.hid hI
          clear hq g3 h3 hcell hcell' hI
          go_wp2_with fail
          first | (with_reducible refine wp_region_ext_lit2 ?_ ?_ ?_) | refine wp_region_ext_lit ?_ ?_ ?_
          kernel_rfl
          kernel_rfl
          repeat (go_big_quiet_step (first | (go_at_call 10; with_reducible exact Ret.quiet (HI.out _ (by repeat (first | (with_reducible exact Kp.refl _) | (with_reducible assumption) | (with_reducible apply Kp.ext) | (with_reducible apply Kp.alloc) | (with_reducible apply Kp.drew) | (with_reducible apply Kp.drewN) | (with_reducible refine Kp.setCell ?_ (by first | (dsimp only; omega) | (simp; omega) | (simp; done) | (simp [size_ext_eq]; omega)) _)))))))
          refine wpQuiet_nil ?_
          rintro _ ⟨u, rfl⟩
          go_wp2_with fail
          go_roundw
          case rel => exact ⟨j + 1, by omega, by go_num, (by repeat (first | (with_reducible exact Kp.refl _) | (with_reducible assumption) | (with_reducible apply Kp.ext) | (with_reducible apply Kp.alloc) | (with_reducible apply Kp.drew) | (with_reducible apply Kp.drewN) | (with_reducible refine Kp.setCell ?_ (by first | (dsimp only; omega) | (simp; omega) | (simp; done) | (simp [size_ext_eq]; omega)) _)))⟩
          case measure => simp [intOf]; omega
        · obtain rfl : j = s.parts.length := by omega
          go_wp2_with fail
          go_ret
          exact Ret.mk rfl (by repeat (first | (with_reducible exact Kp.refl _) | (with_reducible assumption) | (with_reducible apply Kp.ext) | (with_reducible apply Kp.alloc) | (with_reducible apply Kp.drew) | (with_reducible apply Kp.drewN) | (with_reducible refine Kp.setCell ?_ (by first | (dsimp only; omega) | (simp; omega) | (simp; done) | (simp [size_ext_eq]; omega)) _)))
theorem sameShape_c : ∀ (d : Nat) (s : Sh) (lv pv lv' pv' : Value) (w : World), ShIn d w lv pv s → ShIn d w lv' pv' s → cntOk d s = true → Small d s →
    Calls Tryz.prog 10 #[.agg #[.int .i64 s.kind, lv, pv], .agg #[.int .i64 s.kind, lv', pv']] w (Ret w (.bool true))
  | 0, _, _, _, _, _, _, _, _, h, _ => by cases h
  | d + 1, s, lv, pv, lv', pv', w, ha, hb, ok, sm => by
    obtain ⟨_, _, n1, n2⟩ := shHead_spec (cntOk_parts ok).1
    exact sameShape_step d s lv pv lv' pv' w ha hb n1 n2 sm.1 fun i h lv pv lv' pv' w ga gb => sameShape_c d _ lv pv lv' pv' w ga gb ((cntOk_parts ok).2.1 _ (List.getElem_mem h)).1 (sm.2 _ (List.getElem_mem h))
end Go.Proofs.YtobdohhabgnjiaaGreatDoor
