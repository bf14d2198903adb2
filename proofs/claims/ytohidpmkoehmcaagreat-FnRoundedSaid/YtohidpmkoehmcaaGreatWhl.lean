/-
  spec.all of spec.IsWhole, spec.WholeShape, walked.
-/
import Derived.Test.YtohidpmkoehmcaaGreatEqF
namespace Go.Proofs.YtohidpmkoehmcaaGreat
open PubFl Go.RowKit

attribute [local go_sem] cell_ext frozen_ext ext_setCell cell_store size_ext_eq lt_p0 lt_p1 lt_p2 lt_p3 lt_p4 lt_p5 lt_p6 lt_p7 lt_p8 lt_p9 lt_p10 lt_p11 lt_p12 lt_p13 lt_p14 lt_p15 lt_p16 lt_p17 lt_p18 lt_p19 lt_p20 lt_p21 lt_p22 lt_p23 lt_p24 lt_p25 lt_p26 lt_p27 lt_p28 lt_p29 lt_p30 lt_p31 lt_p32 lt_q1 lt_q2 lt_q3 lt_q4 lt_q5 lt_q6 lt_q7 lt_q8 lt_q9 lt_q10 lt_q11 lt_q12 lt_q13 lt_q14 lt_q15 lt_q16 lt_q17 lt_q18 lt_q19 lt_q20 lt_q21 lt_q22 lt_q23 lt_q24 lt_q25 lt_q26 lt_q27 lt_q28 lt_q29 lt_q30 lt_q31 lt_q32 run_fop run_store_float
attribute [local go_sem high] cmp_eql cmp_neq cmp_lss cmp_leq cmp_gtr cmp_geq

set_option maxRecDepth 100000 in
set_option maxHeartbeats 4000000 in
theorem allWh_step (d : Nat) (s : Sh) (lv pv : Value) (w : World) (hs : ShIn (d + 1) w lv pv s) (hn1 : s.lists.length ≤ 1000) (hn2 : s.parts.length ≤ 1000) (hn3 : ∀ l ∈ s.lists, l.length ≤ 300)
    (ih : ∀ (i : Nat) (h : i < s.parts.length) (lv pv : Value) (w : World), ShIn d w lv pv (s.parts[i]'h) → Calls Tryz.prog 12 #[.agg #[.int .i64 (s.parts[i]'h).kind, lv, pv], .func (.func 13) #[] #[]] w (Ret w (.bool (allSh wholeB d (s.parts[i]'h))))) :
    Calls Tryz.prog 12 #[.agg #[.int .i64 s.kind, lv, pv], .func (.func 13) #[] #[]] w (Ret w (.bool (allSh wholeB (d + 1) s))) := by
  obtain ⟨hls, a2, c2, rfl, _, hparts⟩ := hs
  obtain ⟨a1, c1, rfl, _, hget⟩ := hls.get
  have hno1 : ∀ k, k < s.lists.length → allPts wholeB (s.lists.getD k []) = false → allSh wholeB (d + 1) s = false := fun k hk h => by
    unfold allSh; rw [all_no (f := fun i => allPts wholeB (s.lists.getD i [])) hk h]; rfl
  have hno2 : ∀ k, k < s.parts.length → allSh wholeB d (s.parts.getD k dsh) = false → allSh wholeB (d + 1) s = false := fun k hk h => by
    unfold allSh; rw [all_no (f := fun i => allSh wholeB d (s.parts.getD i dsh)) hk h, Bool.and_false]
  have hyes : AllTo (fun i => allPts wholeB (s.lists.getD i [])) s.lists.length → AllTo (fun i => allSh wholeB d (s.parts.getD i dsh)) s.parts.length → allSh wholeB (d + 1) s = true := fun h1 h2 => by
    unfold allSh; rw [all_yes h1, all_yes h2]; rfl
  generalize allSh wholeB (d + 1) s = r at *
  have Hget := Lib.hid hget
  have Hparts := Lib.hid hparts
  have Ih := Lib.hid ih
  have Hno1 := Lib.hid hno1
  have Hno2 := Lib.hid hno2
  have Hyes := Lib.hid hyes
  have H3 := Lib.hid hn3
  clear hget hparts ih hno1 hno2 hyes hls hn3
  go_enter Tryz.func12, Tryz.ntmps12
  go_wp2_with fail
  go_loopw [14] (fun s14 wr => ∃ k : Nat, k ≤ s.lists.length ∧ s14 = .int .i64 k ∧ Kp w wr ∧ Box3 wr w.heap.size (.int .i64 s.kind) (.slice a1 s.lists.length c1) (.slice a2 s.parts.length c2) ∧ AllTo (fun i => allPts wholeB (s.lists.getD i [])) k) (fun s14 _ => s.lists.length - (intOf s14).toNat)
  case atStart => exact ⟨0, by omega, rfl, (by repeat (first | (with_reducible exact Kp.refl _) | (with_reducible assumption) | (with_reducible apply Kp.ext) | (with_reducible apply Kp.alloc) | (with_reducible apply Kp.drew) | (with_reducible apply Kp.drewN) | (with_reducible refine Kp.setCell ?_ (by first | (dsimp only; omega) | (simp; omega) | (simp; done) | (simp [size_ext_eq]; omega)) _))), Box3.new _ _ _ _ _, fun i hi => by omega⟩
  case round =>
    obtain ⟨k, hk, rfl, hkp, hbox, hall⟩ := hrel
    have Hall := Lib.hid hall
    clear hall
    obtain ⟨hB, b0, b1, b2⟩ := id hbox
    by_cases hlt : k < s.lists.length
    · obtain ⟨b, off, a', cap', rfl, hb, hc, _, hin, hbits⟩ := Hget.out k hlt
      have hc' := Kp.cell hkp hc hb
      have hbr : b < wr.heap.size := Nat.lt_of_lt_of_le hb hkp.size
      have hg := getD_ls s.lists k hlt
      have h300 := H3.out _ (List.getElem_mem hlt)
      have hdef : allPts wholeB (s.lists.getD k []) = (List.range (s.lists[k]'hlt).length).all fun i => wholeB ((s.lists[k]'hlt).getD i (0, 0)).1 && wholeB ((s.lists[k]'hlt).getD i (0, 0)).2 := by unfold allPts; rw [hg]
      have Hdef := Lib.hid hdef
      have hin2 := hin.kp hkp
      obtain ⟨ps, hps⟩ : ∃ ps, s.lists[k]'hlt = ps := ⟨_, rfl⟩
      rw [hps] at hc' Hdef hin2 hbits h300
      have Hin := Lib.hid hin2
      have Hbits := Lib.hid hbits
      clear hdef hg hin hc hps hin2 hbits
      go_wp2_with fail
      go_loopw [20] (fun s20 wx => ∃ j : Nat, j ≤ ps.length ∧ s20 = .int .i64 j ∧ Kp wr wx ∧ AllTo (fun i => wholeB (ps.getD i (0, 0)).1 && wholeB (ps.getD i (0, 0)).2) j) (fun s20 _ => ps.length - (intOf s20).toNat)
      case atStart => exact ⟨0, by omega, rfl, (by repeat (first | (with_reducible exact Kp.refl _) | (with_reducible assumption) | (with_reducible apply Kp.ext) | (with_reducible apply Kp.alloc) | (with_reducible apply Kp.drew) | (with_reducible apply Kp.drewN) | (with_reducible refine Kp.setCell ?_ (by first | (dsimp only; omega) | (simp; omega) | (simp; done) | (simp [size_ext_eq]; omega)) _))), fun i hi => by omega⟩
      case round =>
        obtain ⟨j, hj, rfl, hkx, hall2⟩ := hrel
        have Hall2 := Lib.hid hall2
        clear hall2
        by_cases hlt2 : j < ps.length
        · obtain ⟨b3, o3, rfl, hb3, hpt⟩ := Hin.out.cells (by omega)
          obtain ⟨e0, e1⟩ := hpt.kp hb3 hkx j hlt2
          obtain ⟨g0, g1⟩ := Hbits.out j hlt2
          have hgd := getD_in ps j hlt2
          have hb3x := Nat.lt_of_lt_of_le hb3 hkx.size
          have hkq := hkp.trans hkx
          obtain ⟨⟨px, py⟩, hq⟩ : ∃ q, ps[j]'hlt2 = q := ⟨_, rfl⟩
          rw [hq] at e0 e1 g0 g1 hgd
          have Hgd := Lib.hid hgd
          clear hq hgd hpt
          have hx := fun w => whole_c px g0 w
          have hy := fun w => whole_c py g1 w
          cases cx : wholeB px
          · have hr : r = false := Hno1.out k hlt (by rw [Hdef.out]; exact all_no hlt2 (by rw [Hgd.out]; simp only [cx]; rfl))
            rw [cx] at hx
            have Hx := Lib.hid hx
            clear hx hy cx
            subst hr
            go_wp2_with (go_at_call 13; (first | (with_reducible refine (Ret.at_ext (Hx.out _)).mono ?_) | (with_reducible refine (Hx.out _).mono ?_)); rintro e w' ⟨rfl, u, rfl⟩)
            go_ret
            exact Ret.mk rfl (by repeat (first | (with_reducible exact Kp.refl _) | (with_reducible assumption) | (with_reducible apply Kp.ext) | (with_reducible apply Kp.alloc) | (with_reducible apply Kp.drew) | (with_reducible apply Kp.drewN) | (with_reducible refine Kp.setCell ?_ (by first | (dsimp only; omega) | (simp; omega) | (simp; done) | (simp [size_ext_eq]; omega)) _)))
          · cases cy : wholeB py
            · have hr : r = false := Hno1.out k hlt (by rw [Hdef.out]; exact all_no hlt2 (by rw [Hgd.out]; simp only [cx, cy]; rfl))
              rw [cx] at hx
              rw [cy] at hy
              have Hx := Lib.hid hx
              have Hy := Lib.hid hy
              clear hx hy cx cy
              subst hr
              go_wp2_with (first | (go_at_call 13; (first | (with_reducible refine (Ret.at_ext (Hx.out _)).mono ?_) | (with_reducible refine (Hx.out _).mono ?_)); rintro e w' ⟨rfl, u, rfl⟩) | (go_at_call 13; (first | (with_reducible refine (Ret.at_ext (Hy.out _)).mono ?_) | (with_reducible refine (Hy.out _).mono ?_)); rintro e w' ⟨rfl, u, rfl⟩))
              go_ret
              exact Ret.mk rfl (by repeat (first | (with_reducible exact Kp.refl _) | (with_reducible assumption) | (with_reducible apply Kp.ext) | (with_reducible apply Kp.alloc) | (with_reducible apply Kp.drew) | (with_reducible apply Kp.drewN) | (with_reducible refine Kp.setCell ?_ (by first | (dsimp only; omega) | (simp; omega) | (simp; done) | (simp [size_ext_eq]; omega)) _)))
            · have hnx := Lib.hid (Hall2.out.succ (by rw [Hgd.out]; simp only [cx, cy]; rfl))
              rw [cx] at hx
              rw [cy] at hy
              have Hx := Lib.hid hx
              have Hy := Lib.hid hy
              clear hx hy cx cy
              go_wp2_with (first | (go_at_call 13; (first | (with_reducible refine (Ret.at_ext (Hx.out _)).mono ?_) | (with_reducible refine (Hx.out _).mono ?_)); rintro e w' ⟨rfl, u, rfl⟩) | (go_at_call 13; (first | (with_reducible refine (Ret.at_ext (Hy.out _)).mono ?_) | (with_reducible refine (Hy.out _).mono ?_)); rintro e w' ⟨rfl, u, rfl⟩))
              go_roundw
              case rel => exact ⟨j + 1, by omega, by go_num, (by repeat (first | (with_reducible exact Kp.refl _) | (with_reducible assumption) | (with_reducible apply Kp.ext) | (with_reducible apply Kp.alloc) | (with_reducible apply Kp.drew) | (with_reducible apply Kp.drewN) | (with_reducible refine Kp.setCell ?_ (by first | (dsimp only; omega) | (simp; omega) | (simp; done) | (simp [size_ext_eq]; omega)) _))), hnx.out⟩
              case measure => simp [intOf]; omega
        · obtain rfl : j = ps.length := by omega
          have hnx := Lib.hid (Hall.out.succ (by rw [Hdef.out]; exact all_yes Hall2.out))
          go_wp2_with fail
          go_roundw
          case rel => exact ⟨k + 1, by omega, by go_num, hkp.trans hkx, hbox.kp hkx, hnx.out⟩
          case measure => simp [intOf]; omega
    · obtain rfl : k = s.lists.length := by omega
      go_wp2_with fail
      go_loopw [41] (fun s41 wx => ∃ j : Nat, j ≤ s.parts.length ∧ s41 = .int .i64 j ∧ Kp wr wx ∧ AllTo (fun i => allSh wholeB d (s.parts.getD i dsh)) j) (fun s41 _ => s.parts.length - (intOf s41).toNat)
      case atStart => exact ⟨0, by omega, rfl, (by repeat (first | (with_reducible exact Kp.refl _) | (with_reducible assumption) | (with_reducible apply Kp.ext) | (with_reducible apply Kp.alloc) | (with_reducible apply Kp.drew) | (with_reducible apply Kp.drewN) | (with_reducible refine Kp.setCell ?_ (by first | (dsimp only; omega) | (simp; omega) | (simp; done) | (simp [size_ext_eq]; omega)) _))), fun i hi => by omega⟩
      case round =>
        obtain ⟨j, hj, rfl, hkx, hall2⟩ := hrel
        have Hall2 := Lib.hid hall2
        clear hall2
        by_cases hlt2 : j < s.parts.length
        · obtain ⟨b, off, rfl, hb, hcell⟩ : ∃ b off, a2 = some ⟨b, off, none⟩ ∧ b < w.heap.size ∧ ∀ (i : Nat) (h : i < s.parts.length), ∃ lv' pv', w.cell? ⟨b, off + i * 3, none⟩ = some (.int .i64 (s.parts[i]'h).kind) ∧
              w.cell? ⟨b, off + i * 3 + 1, none⟩ = some lv' ∧ w.cell? ⟨b, off + i * 3 + 2, none⟩ = some pv' ∧ ShIn d w lv' pv' (s.parts[i]'h) := by
            rcases Hparts.out with h | h
            · rw [h] at hlt2; simp at hlt2
            · exact h
          obtain ⟨lv', pv', g0, g1, g2, g3⟩ := hcell j hlt2
          obtain ⟨⟨a3, n3, c3, rfl⟩, a4, n4, c4, rfl⟩ := g3.form
          have hkq := hkp.trans hkx
          have g0 := Kp.cell hkq g0 hb
          have g1 := Kp.cell hkq g1 hb
          have g2 := Kp.cell hkq g2 hb
          have hbx := Nat.lt_of_lt_of_le hb hkq.size
          have hI := fun w' (hk' : Kp _ w') => Ih.out j hlt2 _ _ w' ((g3.kp hkq).kp hk')
          have hgd := getD_sh s.parts j hlt2
          obtain ⟨q, hq⟩ : ∃ q, s.parts[j]'hlt2 = q := ⟨_, rfl⟩
          simp only [hq] at g0 hI hgd
          have Hgd := Lib.hid hgd
          clear hq hgd g3 hcell
          cases cq : allSh wholeB d q
          · have hr : r = false := Hno2.out j hlt2 (by rw [Hgd.out]; exact cq)
            rw [cq] at hI
            have HI := Lib.hid hI
            clear hI cq
            subst hr
            go_wp2_with (go_at_call 12; (first | (with_reducible refine (Ret.at_ext (HI.out _ (by repeat (first | (with_reducible exact Kp.refl _) | (with_reducible assumption) | (with_reducible apply Kp.ext) | (with_reducible apply Kp.alloc) | (with_reducible apply Kp.drew) | (with_reducible apply Kp.drewN) | (with_reducible refine Kp.setCell ?_ (by first | (dsimp only; omega) | (simp; omega) | (simp; done) | (simp [size_ext_eq]; omega)) _))))).mono ?_) | (with_reducible refine (HI.out _ (by repeat (first | (with_reducible exact Kp.refl _) | (with_reducible assumption) | (with_reducible apply Kp.ext) | (with_reducible apply Kp.alloc) | (with_reducible apply Kp.drew) | (with_reducible apply Kp.drewN) | (with_reducible refine Kp.setCell ?_ (by first | (dsimp only; omega) | (simp; omega) | (simp; done) | (simp [size_ext_eq]; omega)) _)))).mono ?_)); rintro e w' ⟨rfl, u, rfl⟩)
            go_ret
            exact Ret.mk rfl (by repeat (first | (with_reducible exact Kp.refl _) | (with_reducible assumption) | (with_reducible apply Kp.ext) | (with_reducible apply Kp.alloc) | (with_reducible apply Kp.drew) | (with_reducible apply Kp.drewN) | (with_reducible refine Kp.setCell ?_ (by first | (dsimp only; omega) | (simp; omega) | (simp; done) | (simp [size_ext_eq]; omega)) _)))
          · have hnx := Lib.hid (Hall2.out.succ (by rw [Hgd.out]; exact cq))
            rw [cq] at hI
            have HI := Lib.hid hI
            clear hI cq
            go_wp2_with (go_at_call 12; (first | (with_reducible refine (Ret.at_ext (HI.out _ (by repeat (first | (with_reducible exact Kp.refl _) | (with_reducible assumption) | (with_reducible apply Kp.ext) | (with_reducible apply Kp.alloc) | (with_reducible apply Kp.drew) | (with_reducible apply Kp.drewN) | (with_reducible refine Kp.setCell ?_ (by first | (dsimp only; omega) | (simp; omega) | (simp; done) | (simp [size_ext_eq]; omega)) _))))).mono ?_) | (with_reducible refine (HI.out _ (by repeat (first | (with_reducible exact Kp.refl _) | (with_reducible assumption) | (with_reducible apply Kp.ext) | (with_reducible apply Kp.alloc) | (with_reducible apply Kp.drew) | (with_reducible apply Kp.drewN) | (with_reducible refine Kp.setCell ?_ (by first | (dsimp only; omega) | (simp; omega) | (simp; done) | (simp [size_ext_eq]; omega)) _)))).mono ?_)); rintro e w' ⟨rfl, u, rfl⟩)
            go_roundw
            case rel => exact ⟨j + 1, by omega, by go_num, (by repeat (first | (with_reducible exact Kp.refl _) | (with_reducible assumption) | (with_reducible apply Kp.ext) | (with_reducible apply Kp.alloc) | (with_reducible apply Kp.drew) | (with_reducible apply Kp.drewN) | (with_reducible refine Kp.setCell ?_ (by first | (dsimp only; omega) | (simp; omega) | (simp; done) | (simp [size_ext_eq]; omega)) _))), hnx.out⟩
            case measure => simp [intOf]; omega
        · obtain rfl : j = s.parts.length := by omega
          have hr : r = true := Hyes.out Hall.out Hall2.out
          have hkq := hkp.trans hkx
          subst hr
          go_wp2_with fail
          go_ret
          exact Ret.mk rfl (by repeat (first | (with_reducible exact Kp.refl _) | (with_reducible assumption) | (with_reducible apply Kp.ext) | (with_reducible apply Kp.alloc) | (with_reducible apply Kp.drew) | (with_reducible apply Kp.drewN) | (with_reducible refine Kp.setCell ?_ (by first | (dsimp only; omega) | (simp; omega) | (simp; done) | (simp [size_ext_eq]; omega)) _)))

theorem allWh_c : ∀ (d : Nat) (s : Sh) (lv pv : Value) (w : World), ShIn d w lv pv s → cntOk d s = true → Small d s → Calls Tryz.prog 12 #[.agg #[.int .i64 s.kind, lv, pv], .func (.func 13) #[] #[]] w (Ret w (.bool (allSh wholeB d s)))
  | 0, _, _, _, _, _, h, _ => by cases h
  | d + 1, s, lv, pv, w, hs, hok, hsm => by
    obtain ⟨h1, h2, _⟩ := cntOk_parts hok
    obtain ⟨_, _, k3, k4⟩ := shHead_spec h1
    exact allWh_step d s lv pv w hs (by omega) (by omega) hsm.1 fun i h lv pv w hs => allWh_c d _ lv pv w hs (h2 _ (List.getElem_mem h)).1 (hsm.2 _ (List.getElem_mem h))
def whShB (s : Sh) : Bool := isShB s && allSh wholeB 4 s
theorem whShape_c (s : Sh) (lv pv : Value) (w : World) (hs : ShIn 4 w lv pv s) : Calls Tryz.prog 5 #[.agg #[.int .i64 s.kind, lv, pv]] w (Ret w (.bool (whShB s))) := by
  have h1 := fun w' (hk : Kp w w') => isShape_c s lv pv w' (hs.kp hk)
  have h2 : isShB s = true → ∀ w', Kp w w' → _ := fun h w' hk => allWh_c 4 s lv pv w' (hs.kp hk) (isSh_facts h).1 (isSh_facts h).2
  obtain ⟨⟨a1, n1, c1, rfl⟩, a2, n2, c2, rfl⟩ := hs.form
  unfold whShB
  cases h : isShB s
  · rw [h] at h1
    have H1 := Lib.hid h1
    clear h1 h2 hs
    go_enter Tryz.func5, Tryz.ntmps5
    go_wp2_with (go_at_call 11; (first | (with_reducible refine (Ret.at_ext (H1.out _ (by repeat (first | (with_reducible exact Kp.refl _) | (with_reducible assumption) | (with_reducible apply Kp.ext) | (with_reducible apply Kp.alloc) | (with_reducible apply Kp.drew) | (with_reducible apply Kp.drewN) | (with_reducible refine Kp.setCell ?_ (by first | (dsimp only; omega) | (simp; omega) | (simp; done) | (simp [size_ext_eq]; omega)) _))))).mono ?_) | (with_reducible refine (H1.out _ (by repeat (first | (with_reducible exact Kp.refl _) | (with_reducible assumption) | (with_reducible apply Kp.ext) | (with_reducible apply Kp.alloc) | (with_reducible apply Kp.drew) | (with_reducible apply Kp.drewN) | (with_reducible refine Kp.setCell ?_ (by first | (dsimp only; omega) | (simp; omega) | (simp; done) | (simp [size_ext_eq]; omega)) _)))).mono ?_)); rintro e w' ⟨rfl, u, rfl⟩)
    go_ret
    exact Ret.mk rfl (by repeat (first | (with_reducible exact Kp.refl _) | (with_reducible assumption) | (with_reducible apply Kp.ext) | (with_reducible apply Kp.alloc) | (with_reducible apply Kp.drew) | (with_reducible apply Kp.drewN) | (with_reducible refine Kp.setCell ?_ (by first | (dsimp only; omega) | (simp; omega) | (simp; done) | (simp [size_ext_eq]; omega)) _)))
  · rw [h] at h1
    have H1 := Lib.hid h1
    have H2 := Lib.hid (h2 h)
    clear h1 h2 hs h
    generalize allSh wholeB 4 s = r at *
    go_enter Tryz.func5, Tryz.ntmps5
    go_wp2_with (first | (go_at_call 11; (first | (with_reducible refine (Ret.at_ext (H1.out _ (by repeat (first | (with_reducible exact Kp.refl _) | (with_reducible assumption) | (with_reducible apply Kp.ext) | (with_reducible apply Kp.alloc) | (with_reducible apply Kp.drew) | (with_reducible apply Kp.drewN) | (with_reducible refine Kp.setCell ?_ (by first | (dsimp only; omega) | (simp; omega) | (simp; done) | (simp [size_ext_eq]; omega)) _))))).mono ?_) | (with_reducible refine (H1.out _ (by repeat (first | (with_reducible exact Kp.refl _) | (with_reducible assumption) | (with_reducible apply Kp.ext) | (with_reducible apply Kp.alloc) | (with_reducible apply Kp.drew) | (with_reducible apply Kp.drewN) | (with_reducible refine Kp.setCell ?_ (by first | (dsimp only; omega) | (simp; omega) | (simp; done) | (simp [size_ext_eq]; omega)) _)))).mono ?_)); rintro e w' ⟨rfl, u, rfl⟩) | (go_at_call 12; (first | (with_reducible refine (Ret.at_ext (H2.out _ (by repeat (first | (with_reducible exact Kp.refl _) | (with_reducible assumption) | (with_reducible apply Kp.ext) | (with_reducible apply Kp.alloc) | (with_reducible apply Kp.drew) | (with_reducible apply Kp.drewN) | (with_reducible refine Kp.setCell ?_ (by first | (dsimp only; omega) | (simp; omega) | (simp; done) | (simp [size_ext_eq]; omega)) _))))).mono ?_) | (with_reducible refine (H2.out _ (by repeat (first | (with_reducible exact Kp.refl _) | (with_reducible assumption) | (with_reducible apply Kp.ext) | (with_reducible apply Kp.alloc) | (with_reducible apply Kp.drew) | (with_reducible apply Kp.drewN) | (with_reducible refine Kp.setCell ?_ (by first | (dsimp only; omega) | (simp; omega) | (simp; done) | (simp [size_ext_eq]; omega)) _)))).mono ?_)); rintro e w' ⟨rfl, u, rfl⟩))
    go_ret
    exact Ret.mk (by simp) (by repeat (first | (with_reducible exact Kp.refl _) | (with_reducible assumption) | (with_reducible apply Kp.ext) | (with_reducible apply Kp.alloc) | (with_reducible apply Kp.drew) | (with_reducible apply Kp.drewN) | (with_reducible refine Kp.setCell ?_ (by first | (dsimp only; omega) | (simp; omega) | (simp; done) | (simp [size_ext_eq]; omega)) _)))
end Go.Proofs.YtohidpmkoehmcaaGreat
