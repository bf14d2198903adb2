/-
  spec.full, spec.isEmpty, spec.IsFull.
-/
import Derived.Test.YtciaeknfgdckbaaBoxSh
namespace Go.Proofs.Ytciaeknfgdckbaa
open PubFl Go.RowKit

attribute [local go_sem] cell_ext frozen_ext ext_setCell cell_store size_ext_eq lt_p0 lt_p1 lt_p2 lt_p3 lt_p4 lt_p5 lt_p6 lt_p7 lt_p8 lt_p9 lt_p10 lt_p11 lt_p12 lt_p13 lt_p14 lt_p15 lt_p16 lt_p17 lt_p18 lt_p19 lt_p20 lt_p21 lt_p22 lt_p23 lt_p24 lt_p25 lt_p26 lt_p27 lt_p28 lt_p29 lt_p30 lt_p31 lt_p32 lt_q1 lt_q2 lt_q3 lt_q4 lt_q5 lt_q6 lt_q7 lt_q8 lt_q9 lt_q10 lt_q11 lt_q12 lt_q13 lt_q14 lt_q15 lt_q16 lt_q17 lt_q18 lt_q19 lt_q20 lt_q21 lt_q22 lt_q23 lt_q24 lt_q25 lt_q26 lt_q27 lt_q28 lt_q29 lt_q30 lt_q31 lt_q32 run_fop run_store_float
attribute [local go_sem high] cmp_eql cmp_neq cmp_lss cmp_leq cmp_gtr cmp_geq

set_option maxRecDepth 100000 in
set_option maxHeartbeats 4000000 in
theorem full_step (d : Nat) (s : Sh) (lv pv : Value) (w : World) (hs : ShIn (d + 1) w lv pv s) (hn1 : s.lists.length ≤ 1000) (hn2 : s.parts.length ≤ 1000) (hn3 : ∀ l ∈ s.lists, l.length ≤ 300)
    (ih : ∀ (i : Nat) (h : i < s.parts.length) (lv pv : Value) (w : World), ShIn d w lv pv (s.parts[i]'h) → Calls Try.prog 19 #[.agg #[.int .i64 (s.parts[i]'h).kind, lv, pv]] w (Ret w (.bool (fullB d (s.parts[i]'h))))) :
    Calls Try.prog 19 #[.agg #[.int .i64 s.kind, lv, pv]] w (Ret w (.bool (fullB (d + 1) s))) := by
  obtain ⟨hls, a2, c2, rfl, _, hparts⟩ := hs
  obtain ⟨a1, c1, rfl, _, hget⟩ := hls.get
  have hno1 : ∀ k, k < s.lists.length → (s.lists.getD k []).length = 0 → fullB (d + 1) s = false := fun k hk h => by
    unfold fullB; rw [all_no (f := fun i => decide ((s.lists.getD i []).length ≠ 0)) hk (by simpa using h)]; rfl
  have hno2 : ∀ k, k < s.parts.length → fullB d (s.parts.getD k dsh) = false → fullB (d + 1) s = false := fun k hk h => by
    unfold fullB; rw [all_no (f := fun i => fullB d (s.parts.getD i dsh)) hk h, Bool.and_false]; rfl
  have hyes : AllTo (fun i => decide ((s.lists.getD i []).length ≠ 0)) s.lists.length → AllTo (fun i => fullB d (s.parts.getD i dsh)) s.parts.length → fullB (d + 1) s = decide (0 < s.lists.length + s.parts.length) := fun h1 h2 => by
    unfold fullB; rw [all_yes h1, all_yes h2]; rfl
  generalize fullB (d + 1) s = r at *
  have Hget := Lib.hid hget
  have Hparts := Lib.hid hparts
  have Ih := Lib.hid ih
  have Hno1 := Lib.hid hno1
  have Hno2 := Lib.hid hno2
  have Hyes := Lib.hid hyes
  have H3 := Lib.hid hn3
  clear hget hparts ih hno1 hno2 hyes hls hn3
  go_enter Try.func19, Try.ntmps19
  go_wp2_with fail
  go_loopw [10] (fun s10 wr => ∃ k : Nat, k ≤ s.lists.length ∧ s10 = .int .i64 k ∧ Kp w wr ∧ Box3 wr w.heap.size (.int .i64 s.kind) (.slice a1 s.lists.length c1) (.slice a2 s.parts.length c2) ∧ AllTo (fun i => decide ((s.lists.getD i []).length ≠ 0)) k) (fun s10 _ => s.lists.length - (intOf s10).toNat)
  case atStart => exact ⟨0, by omega, rfl, (by repeat (first | (with_reducible exact Kp.refl _) | (with_reducible assumption) | (with_reducible apply Kp.ext) | (with_reducible apply Kp.alloc) | (with_reducible apply Kp.drew) | (with_reducible apply Kp.drewN) | (with_reducible refine Kp.setCell ?_ (by first | (dsimp only; omega) | (simp; omega) | (simp; done) | (simp [size_ext_eq]; omega)) _))), Box3.new _ _ _ _ _, fun i hi => by omega⟩
  case round =>
    obtain ⟨k, hk, rfl, hkp, hbox, hall⟩ := hrel
    have Hall := Lib.hid hall
    clear hall
    obtain ⟨hB, b0, b1, b2⟩ := id hbox
    by_cases hlt : k < s.lists.length
    · obtain ⟨b, off, a', cap', rfl, hb, hc, _, hin, hbits⟩ := Hget.out k hlt
      have hc' := Kp.cell hkp hc hb
      have hbr : b < wr.heap.size := Nat.lt_of_lt_of_le hb hkp.size
      have hg := getD_ls s.lists k hlt
      have h300 := H3.out _ (List.getElem_mem hlt)
      obtain ⟨ps, hps⟩ : ∃ ps, s.lists[k]'hlt = ps := ⟨_, rfl⟩
      rw [hps] at hc' h300 hg
      have Hg := Lib.hid hg
      have hk1 : (k : Int) < (s.lists.length : Int) := by omega
      clear hg hin hc hps hbits
      by_cases h0 : ps.length = 0
      · have hr : r = false := Hno1.out k hlt (by rw [Hg.out]; exact h0)
        rw [h0] at hc'
        clear h300 h0
        subst hr
        go_wp2_with fail
        go_ret
        exact Ret.mk rfl (by repeat (first | (with_reducible exact Kp.refl _) | (with_reducible assumption) | (with_reducible apply Kp.ext) | (with_reducible apply Kp.alloc) | (with_reducible apply Kp.drew) | (with_reducible apply Kp.drewN) | (with_reducible refine Kp.setCell ?_ (by first | (dsimp only; omega) | (simp; omega) | (simp; done) | (simp [size_ext_eq]; omega)) _)))
      · have hnx := Lib.hid (Hall.out.succ (by rw [Hg.out]; simpa using h0))
        have e1 : (ps.length = 0) = False := eq_false h0
        have e2 : ((ps.length : Int) == 0) = false := beq_eq_false_iff_ne.2 (by omega)
        have e3 : (ps.length == 0) = false := beq_eq_false_iff_ne.2 h0
        clear h0
        go_wp2_with fail
        go_roundw
        case rel => exact ⟨k + 1, by omega, by go_num, hkp, hbox, hnx.out⟩
        case measure => simp [intOf]; omega
    · obtain rfl : k = s.lists.length := by omega
      go_wp2_with fail
      go_loopw [21] (fun s21 wx => ∃ j : Nat, j ≤ s.parts.length ∧ s21 = .int .i64 j ∧ Kp wr wx ∧ AllTo (fun i => fullB d (s.parts.getD i dsh)) j) (fun s21 _ => s.parts.length - (intOf s21).toNat)
      case atStart => exact ⟨0, by omega, rfl, (by repeat (first | (with_reducible exact Kp.refl _) | (with_reducible assumption) | (with_reducible apply Kp.ext) | (with_reducible apply Kp.alloc) | (with_reducible apply Kp.drew) | (with_reducible apply Kp.drewN) | (with_reducible refine Kp.setCell ?_ (by first | (dsimp only; omega) | (simp; omega) | (simp; done) | (simp [size_ext_eq]; omega)) _))), fun i hi => by omega⟩
      case round =>
        obtain ⟨j, hj, rfl, hkx, hall2⟩ := hrel
        have Hall2 := Lib.hid hall2
        clear hall2
        by_cases hlt2 : j < s.parts.length
        · obtain ⟨b, off, rfl, hb, hcell⟩ : ∃ b off, a2 = some ⟨b, off, none⟩ ∧ b < w.heap.size ∧ ∀ (i : Nat) (h : i < s.parts.length), ∃ lv' pv', w.cell? ⟨b, off + i * 3, none⟩ = some (.int .i64 (s.parts[i]'h).kind) ∧
              w.cell? ⟨b, off + i * 3 + 1, none⟩ = some lv' ∧ w.cell? ⟨b, off + i * 3 + 2, none⟩ = some pv' ∧ ShIn d w lv' pv' (s.parts[i]'h) := by
            rcases Hparts.out with h | h
            · rw [h] at hlt2; simp at hlt2
            · exact h
          obtain ⟨lv', pv', g0, g1, g2, g3⟩ := hcell j hlt2
          obtain ⟨⟨a3, n3, c3, rfl⟩, a4, n4, c4, rfl⟩ := g3.form
          have hkq := hkp.trans hkx
          have g0 := Kp.cell hkq g0 hb
          have g1 := Kp.cell hkq g1 hb
          have g2 := Kp.cell hkq g2 hb
          have hbx := Nat.lt_of_lt_of_le hb hkq.size
          have hI := fun w' (hk' : Kp _ w') => Ih.out j hlt2 _ _ w' ((g3.kp hkq).kp hk')
          have hgd := getD_sh s.parts j hlt2
          obtain ⟨q, hq⟩ : ∃ q, s.parts[j]'hlt2 = q := ⟨_, rfl⟩
          simp only [hq] at g0 hI hgd
          have Hgd := Lib.hid hgd
          clear hq hgd g3 hcell
          cases cq : fullB d q
          · have hr : r = false := Hno2.out j hlt2 (by rw [Hgd.out]; exact cq)
            rw [cq] at hI
            have HI := Lib.hid hI
            clear hI cq
            subst hr
            go_wp2_with (go_at_call 19; (first | (with_reducible refine (Ret.at_ext (HI.out _ (by repeat (first | (with_reducible exact Kp.refl _) | (with_reducible assumption) | (with_reducible apply Kp.ext) | (with_reducible apply Kp.alloc) | (with_reducible apply Kp.drew) | (with_reducible apply Kp.drewN) | (with_reducible refine Kp.setCell ?_ (by first | (dsimp only; omega) | (simp; omega) | (simp; done) | (simp [size_ext_eq]; omega)) _))))).mono ?_) | (with_reducible refine (HI.out _ (by repeat (first | (with_reducible exact Kp.refl _) | (with_reducible assumption) | (with_reducible apply Kp.ext) | (with_reducible apply Kp.alloc) | (with_reducible apply Kp.drew) | (with_reducible apply Kp.drewN) | (with_reducible refine Kp.setCell ?_ (by first | (dsimp only; omega) | (simp; omega) | (simp; done) | (simp [size_ext_eq]; omega)) _)))).mono ?_)); rintro e w' ⟨rfl, u, rfl⟩)
            go_ret
            exact Ret.mk rfl (by repeat (first | (with_reducible exact Kp.refl _) | (with_reducible assumption) | (with_reducible apply Kp.ext) | (with_reducible apply Kp.alloc) | (with_reducible apply Kp.drew) | (with_reducible apply Kp.drewN) | (with_reducible refine Kp.setCell ?_ (by first | (dsimp only; omega) | (simp; omega) | (simp; done) | (simp [size_ext_eq]; omega)) _)))
          · have hnx := Lib.hid (Hall2.out.succ (by rw [Hgd.out]; exact cq))
            rw [cq] at hI
            have HI := Lib.hid hI
            clear hI cq
            go_wp2_with (go_at_call 19; (first | (with_reducible refine (Ret.at_ext (HI.out _ (by repeat (first | (with_reducible exact Kp.refl _) | (with_reducible assumption) | (with_reducible apply Kp.ext) | (with_reducible apply Kp.alloc) | (with_reducible apply Kp.drew) | (with_reducible apply Kp.drewN) | (with_reducible refine Kp.setCell ?_ (by first | (dsimp only; omega) | (simp; omega) | (simp; done) | (simp [size_ext_eq]; omega)) _))))).mono ?_) | (with_reducible refine (HI.out _ (by repeat (first | (with_reducible exact Kp.refl _) | (with_reducible assumption) | (with_reducible apply Kp.ext) | (with_reducible apply Kp.alloc) | (with_reducible apply Kp.drew) | (with_reducible apply Kp.drewN) | (with_reducible refine Kp.setCell ?_ (by first | (dsimp only; omega) | (simp; omega) | (simp; done) | (simp [size_ext_eq]; omega)) _)))).mono ?_)); rintro e w' ⟨rfl, u, rfl⟩)
            go_roundw
            case rel => exact ⟨j + 1, by omega, by go_num, (by repeat (first | (with_reducible exact Kp.refl _) | (with_reducible assumption) | (with_reducible apply Kp.ext) | (with_reducible apply Kp.alloc) | (with_reducible apply Kp.drew) | (with_reducible apply Kp.drewN) | (with_reducible refine Kp.setCell ?_ (by first | (dsimp only; omega) | (simp; omega) | (simp; done) | (simp [size_ext_eq]; omega)) _))), hnx.out⟩
            case measure => simp [intOf]; omega
        · obtain rfl : j = s.parts.length := by omega
          have hr := Hyes.out Hall.out Hall2.out
          have hkq := hkp.trans hkx
          have hX := hbox.kp hkx
          obtain ⟨hB', q0, q1, q2⟩ := id hX
          obtain ⟨n1, hn1'⟩ : ∃ n, s.lists.length = n := ⟨_, rfl⟩
          obtain ⟨n2, hn2'⟩ : ∃ n, s.parts.length = n := ⟨_, rfl⟩
          rw [hn1', hn2'] at hr
          simp only [hn1', hn2'] at *
          have Hr := Lib.hid hr
          clear hr hn1' hn2' hX
          by_cases h0 : 0 < n1 + n2
          · have e1 : (0 : Int) < (n1 : Int) + (n2 : Int) := by omega
            have hr : r = true := by rw [Hr.out]; exact decide_eq_true h0
            subst hr
            go_wp2_with fail
            go_ret
            exact Ret.mk rfl (by repeat (first | (with_reducible exact Kp.refl _) | (with_reducible assumption) | (with_reducible apply Kp.ext) | (with_reducible apply Kp.alloc) | (with_reducible apply Kp.drew) | (with_reducible apply Kp.drewN) | (with_reducible refine Kp.setCell ?_ (by first | (dsimp only; omega) | (simp; omega) | (simp; done) | (simp [size_ext_eq]; omega)) _)))
          · obtain rfl : n1 = 0 := by omega
            obtain rfl : n2 = 0 := by omega
            have hr : r = false := by rw [Hr.out]; rfl
            subst hr
            go_wp2_with fail
            go_ret
            exact Ret.mk rfl (by repeat (first | (with_reducible exact Kp.refl _) | (with_reducible assumption) | (with_reducible apply Kp.ext) | (with_reducible apply Kp.alloc) | (with_reducible apply Kp.drew) | (with_reducible apply Kp.drewN) | (with_reducible refine Kp.setCell ?_ (by first | (dsimp only; omega) | (simp; omega) | (simp; done) | (simp [size_ext_eq]; omega)) _)))

theorem full_c : ∀ (d : Nat) (s : Sh) (lv pv : Value) (w : World), ShIn d w lv pv s → cntOk d s = true → Small d s → Calls Try.prog 19 #[.agg #[.int .i64 s.kind, lv, pv]] w (Ret w (.bool (fullB d s)))
  | 0, _, _, _, _, _, h, _ => by cases h
  | d + 1, s, lv, pv, w, hs, hok, hsm => by
    obtain ⟨h1, h2, _⟩ := cntOk_parts hok
    obtain ⟨_, _, k3, k4⟩ := shHead_spec h1
    exact full_step d s lv pv w hs (by omega) (by omega) hsm.1 fun i h lv pv w hs => full_c d _ lv pv w hs (h2 _ (List.getElem_mem h)).1 (hsm.2 _ (List.getElem_mem h))

/-- no points, no parts, no lists but an empty one -/
def hollowB (s : Sh) : Bool := decide ((ptsSh false 4 s).length = 0) && decide (s.parts.length = 0) && (decide (s.lists.length = 0) || decide (s.kind = 2) || decide (s.kind = 4))
set_option maxRecDepth 100000 in
set_option maxHeartbeats 4000000 in
theorem spEmpty_c (s : Sh) (lv pv : Value) (w : World) (hs : ShIn 4 w lv pv s) (ok : isShB s = true) : Calls Try.prog 18 #[.agg #[.int .i64 s.kind, lv, pv]] w (Ret w (.bool (hollowB s))) := by
  have hP := fun w' (hk : Kp w w') => specPoints_c 4 s lv pv w' (by omega) (hs.kp hk) (isSh_facts ok).1 (isSh_facts ok).2
  obtain ⟨_, _, hn1, hn2⟩ := shHead_spec (cntOk_parts (isSh_facts ok).1).1
  have hlen := ptsSh_len (o := false) (isSh_facts ok).1 (isSh_facts ok).2
  have hbd : (ptsSh false 4 s).length ≤ 40000000000 := by omega
  obtain ⟨hls, a2, c2, rfl, _, _⟩ := hs
  obtain ⟨a1, c1, rfl, _, _⟩ := hls.get
  have hr : hollowB s = (decide ((ptsSh false 4 s).length = 0) && decide (s.parts.length = 0) && (decide (s.lists.length = 0) || decide (s.kind = 2) || decide (s.kind = 4))) := rfl
  generalize hollowB s = r at *
  obtain ⟨ps, hps⟩ : ∃ ps, ptsSh false 4 s = ps := ⟨_, rfl⟩
  rw [hps] at hP hr hbd
  have HP := Lib.hid hP
  clear hP hps hlen ok hls
  obtain ⟨n1, hn1'⟩ : ∃ n, s.lists.length = n := ⟨_, rfl⟩
  obtain ⟨n2, hn2'⟩ : ∃ n, s.parts.length = n := ⟨_, rfl⟩
  obtain ⟨ka, hka⟩ : ∃ n, s.kind = n := ⟨_, rfl⟩
  obtain ⟨np, hnp⟩ : ∃ n, ps.length = n := ⟨_, rfl⟩
  rw [hn1', hn2', hka, hnp] at hr
  simp only [hn1', hn2', hka] at *
  rw [hnp] at hbd
  have Hnp := Lib.hid hnp
  clear hn1' hn2' hka hnp
  have go : ∀ (b1 b2 b3 b4 b5 : Bool), decide (np = 0) = b1 → decide (n2 = 0) = b2 → decide (n1 = 0) = b3 → decide (ka = 2) = b4 → decide (ka = 4) = b5 → r = (b1 && b2 && (b3 || b4 || b5)) → ((np : Int) == 0) = b1 → ((n2 : Int) == 0) = b2 → ((n1 : Int) == 0) = b3 → (ka == 2) = b4 → (ka == 4) = b5 →
      Calls Try.prog 18 #[.agg #[.int .i64 ka, .slice a1 n1 c1, .slice a2 n2 c2]] w (Ret w (.bool r)) := by
    intro b1 b2 b3 b4 b5 d1 d2 d3 d4 d5 hr f1 f2 f3 f4 f5
    have D1 : (np = 0) = (b1 = true) := by rw [← d1, decide_eq_true_eq]
    have D2 : (n2 = 0) = (b2 = true) := by rw [← d2, decide_eq_true_eq]
    have D3 : (n1 = 0) = (b3 = true) := by rw [← d3, decide_eq_true_eq]
    have D4 : (ka = 2) = (b4 = true) := by rw [← d4, decide_eq_true_eq]
    have D5 : (ka = 4) = (b5 = true) := by rw [← d5, decide_eq_true_eq]
    clear d1 d2 d3 d4 d5
    cases b1
    · subst hr
      go_enter Try.func18, Try.ntmps18
      go_wp2_with (go_at_call 29; (with_reducible refine (HP.out _ (by repeat (first | (with_reducible exact Kp.refl _) | (with_reducible assumption) | (with_reducible apply Kp.ext) | (with_reducible apply Kp.alloc) | (with_reducible apply Kp.drew) | (with_reducible apply Kp.drewN) | (with_reducible refine Kp.setCell ?_ (by first | (dsimp only; omega) | (simp; omega) | (simp; done) | (simp [size_ext_eq]; omega)) _)))).mono ?_); rintro e w1 ⟨v, u, rfl, rfl, hpb⟩; obtain ⟨g2, cap2, rfl, _⟩ := hpb; rw [Hnp.out])
      go_ret
      exact Ret.mk rfl (by repeat (first | (with_reducible exact Kp.refl _) | (with_reducible assumption) | (with_reducible apply Kp.ext) | (with_reducible apply Kp.alloc) | (with_reducible apply Kp.drew) | (with_reducible apply Kp.drewN) | (with_reducible refine Kp.setCell ?_ (by first | (dsimp only; omega) | (simp; omega) | (simp; done) | (simp [size_ext_eq]; omega)) _)))
    · cases b2
      · subst hr
        go_enter Try.func18, Try.ntmps18
        go_wp2_with (go_at_call 29; (with_reducible refine (HP.out _ (by repeat (first | (with_reducible exact Kp.refl _) | (with_reducible assumption) | (with_reducible apply Kp.ext) | (with_reducible apply Kp.alloc) | (with_reducible apply Kp.drew) | (with_reducible apply Kp.drewN) | (with_reducible refine Kp.setCell ?_ (by first | (dsimp only; omega) | (simp; omega) | (simp; done) | (simp [size_ext_eq]; omega)) _)))).mono ?_); rintro e w1 ⟨v, u, rfl, rfl, hpb⟩; obtain ⟨g2, cap2, rfl, _⟩ := hpb; rw [Hnp.out])
        go_ret
        exact Ret.mk rfl (by repeat (first | (with_reducible exact Kp.refl _) | (with_reducible assumption) | (with_reducible apply Kp.ext) | (with_reducible apply Kp.alloc) | (with_reducible apply Kp.drew) | (with_reducible apply Kp.drewN) | (with_reducible refine Kp.setCell ?_ (by first | (dsimp only; omega) | (simp; omega) | (simp; done) | (simp [size_ext_eq]; omega)) _)))
      · cases b3 <;> cases b4 <;> cases b5
        all_goals
          subst hr
          go_enter Try.func18, Try.ntmps18
          go_wp2_with (go_at_call 29; (with_reducible refine (HP.out _ (by repeat (first | (with_reducible exact Kp.refl _) | (with_reducible assumption) | (with_reducible apply Kp.ext) | (with_reducible apply Kp.alloc) | (with_reducible apply Kp.drew) | (with_reducible apply Kp.drewN) | (with_reducible refine Kp.setCell ?_ (by first | (dsimp only; omega) | (simp; omega) | (simp; done) | (simp [size_ext_eq]; omega)) _)))).mono ?_); rintro e w1 ⟨v, u, rfl, rfl, hpb⟩; obtain ⟨g2, cap2, rfl, _⟩ := hpb; rw [Hnp.out])
          go_ret
          exact Ret.mk rfl (by repeat (first | (with_reducible exact Kp.refl _) | (with_reducible assumption) | (with_reducible apply Kp.ext) | (with_reducible apply Kp.alloc) | (with_reducible apply Kp.drew) | (with_reducible apply Kp.drewN) | (with_reducible refine Kp.setCell ?_ (by first | (dsimp only; omega) | (simp; omega) | (simp; done) | (simp [size_ext_eq]; omega)) _)))
  exact go _ _ _ _ _ rfl rfl rfl rfl rfl hr (by by_cases h : np = 0 <;> simp [h]) (by by_cases h : n2 = 0 <;> simp [h]) (by by_cases h : n1 = 0 <;> simp [h]) (by by_cases h : ka = 2 <;> simp [h]) (by by_cases h : ka = 4 <;> simp [h])

set_option maxRecDepth 20000 in
set_option maxHeartbeats 1000000 in
theorem isFull_c (s : Sh) (lv pv : Value) (w : World) (hs : ShIn 4 w lv pv s) (ok : isShB s = true) : Calls Try.prog 7 #[.agg #[.int .i64 s.kind, lv, pv]] w (Ret w (.bool (hollowB s || fullB 4 s))) := by
  have h1 := fun w' (hk : Kp w w') => spEmpty_c s lv pv w' (hs.kp hk) ok
  have h2 := fun w' (hk : Kp w w') => full_c 4 s lv pv w' (hs.kp hk) (isSh_facts ok).1 (isSh_facts ok).2
  obtain ⟨⟨a1, n1, c1, rfl⟩, a2, n2, c2, rfl⟩ := hs.form
  generalize hollowB s = r1 at *
  generalize fullB 4 s = r2 at *
  have H1 := Lib.hid h1
  have H2 := Lib.hid h2
  clear h1 h2 hs ok
  cases r1
  all_goals
    go_enter Try.func7, Try.ntmps7
    go_wp2_with (first | (go_at_call 18; (first | (with_reducible refine (Ret.at_ext (H1.out _ (by repeat (first | (with_reducible exact Kp.refl _) | (with_reducible assumption) | (with_reducible apply Kp.ext) | (with_reducible apply Kp.alloc) | (with_reducible apply Kp.drew) | (with_reducible apply Kp.drewN) | (with_reducible refine Kp.setCell ?_ (by first | (dsimp only; omega) | (simp; omega) | (simp; done) | (simp [size_ext_eq]; omega)) _))))).mono ?_) | (with_reducible refine (H1.out _ (by repeat (first | (with_reducible exact Kp.refl _) | (with_reducible assumption) | (with_reducible apply Kp.ext) | (with_reducible apply Kp.alloc) | (with_reducible apply Kp.drew) | (with_reducible apply Kp.drewN) | (with_reducible refine Kp.setCell ?_ (by first | (dsimp only; omega) | (simp; omega) | (simp; done) | (simp [size_ext_eq]; omega)) _)))).mono ?_)); rintro e w' ⟨rfl, u, rfl⟩) | (go_at_call 19; (first | (with_reducible refine (Ret.at_ext (H2.out _ (by repeat (first | (with_reducible exact Kp.refl _) | (with_reducible assumption) | (with_reducible apply Kp.ext) | (with_reducible apply Kp.alloc) | (with_reducible apply Kp.drew) | (with_reducible apply Kp.drewN) | (with_reducible refine Kp.setCell ?_ (by first | (dsimp only; omega) | (simp; omega) | (simp; done) | (simp [size_ext_eq]; omega)) _))))).mono ?_) | (with_reducible refine (H2.out _ (by repeat (first | (with_reducible exact Kp.refl _) | (with_reducible assumption) | (with_reducible apply Kp.ext) | (with_reducible apply Kp.alloc) | (with_reducible apply Kp.drew) | (with_reducible apply Kp.drewN) | (with_reducible refine Kp.setCell ?_ (by first | (dsimp only; omega) | (simp; omega) | (simp; done) | (simp [size_ext_eq]; omega)) _)))).mono ?_)); rintro e w' ⟨rfl, u, rfl⟩))
    go_ret
    exact Ret.mk rfl (by repeat (first | (with_reducible exact Kp.refl _) | (with_reducible assumption) | (with_reducible apply Kp.ext) | (with_reducible apply Kp.alloc) | (with_reducible apply Kp.drew) | (with_reducible apply Kp.drewN) | (with_reducible refine Kp.setCell ?_ (by first | (dsimp only; omega) | (simp; omega) | (simp; done) | (simp [size_ext_eq]; omega)) _)))
end Go.Proofs.Ytciaeknfgdckbaa
