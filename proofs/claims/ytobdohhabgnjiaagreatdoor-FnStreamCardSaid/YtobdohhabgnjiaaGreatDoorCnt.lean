/-
  spec.counted and spec.IsShape, walked.
-/
import Derived.Test.YtobdohhabgnjiaaGreatDoorCntF
import Derived.Test.YtobdohhabgnjiaaGreatDoorWm
set_option linter.all false
namespace Go.Proofs.YtobdohhabgnjiaaGreatDoor
open PubFl Go.RowKit

attribute [local go_sem] cell_ext frozen_ext ext_setCell cell_store size_ext_eq lt_p0 lt_p1 lt_p2 lt_p3 lt_p4 lt_p5 lt_p6 lt_p7 lt_p8 lt_p9 lt_p10 lt_p11 lt_p12 lt_p13 lt_p14 lt_p15 lt_p16 lt_p17 lt_p18 lt_p19 lt_p20 lt_p21 lt_p22 lt_p23 lt_p24 lt_p25 lt_p26 lt_p27 lt_p28 lt_p29 lt_p30 lt_p31 lt_p32 lt_q1 lt_q2 lt_q3 lt_q4 lt_q5 lt_q6 lt_q7 lt_q8 lt_q9 lt_q10 lt_q11 lt_q12 lt_q13 lt_q14 lt_q15 lt_q16 lt_q17 lt_q18 lt_q19 lt_q20 lt_q21 lt_q22 lt_q23 lt_q24 lt_q25 lt_q26 lt_q27 lt_q28 lt_q29 lt_q30 lt_q31 lt_q32 run_fop run_store_float
attribute [local go_sem high] cmp_eql cmp_neq cmp_lss cmp_leq cmp_gtr cmp_geq

def CntRet (w : World) (d : Nat) (s : Sh) (e : Ending) (w' : World) : Prop :=
  ∃ p m : Int, e = .returned (.tuple #[.int .i64 p, .int .i64 m, .bool (cntOk d s)]) ∧ (cntOk d s = true → m = cntM d s ∧ (cntM d s ≤ 40 → p = cntP d s)) ∧ ∃ u, w' = ext w u

set_option maxRecDepth 100000 in
theorem counted_zero (s : Sh) (lv pv : Value) (w : World) : Calls Tryz.prog 29 #[.agg #[.int .i64 s.kind, lv, pv], .int .i64 0] w (CntRet w 0 s) := by
  go_enter Tryz.func29, Tryz.ntmps29
  go_wp2_with fail
  go_ret3
  exact ⟨_, _, rfl, (fun h => by cases h), _, ext_of (show Kp w _ from (by repeat (first | (with_reducible exact Kp.refl _) | (with_reducible assumption) | (with_reducible apply Kp.ext) | (with_reducible apply Kp.alloc) | (with_reducible apply Kp.drew) | (with_reducible apply Kp.drewN) | (with_reducible refine Kp.setCell ?_ (by first | (dsimp only; omega) | (simp; omega) | (simp; done) | (simp [size_ext_eq]; omega)) _))))⟩

theorem cntOk_head {d : Nat} {s : Sh} (h : shHead s = false) : cntOk (d + 1) s = false := by unfold cntOk; rw [h]; rfl
theorem cntOk_part {d : Nat} {s : Sh} {p : Sh} (hp : p ∈ s.parts) (h : cntOk d p = false ∨ partB s.kind p = false) : cntOk (d + 1) s = false := by
  unfold cntOk
  have : s.parts.all (fun p => cntOk d p && partB s.kind p) = false := List.all_eq_false.2 ⟨p, hp, by rcases h with h | h <;> simp [h]⟩
  rw [this]; simp
theorem cntOk_form {d : Nat} {s : Sh} (h1 : shHead s = true) (h2 : ∀ p ∈ s.parts, cntOk d p = true ∧ partB s.kind p = true) : cntOk (d + 1) s = formB s := by
  unfold cntOk
  rw [h1, List.all_eq_true.2 (fun p hp => by rw [(h2 p hp).1, (h2 p hp).2]; rfl)]; simp

theorem headD_zero (l : List (List (Nat × Nat))) (h : 0 < l.length) : l.headD [] = l[0]'h := by
  cases l with
  | nil => simp at h
  | cons a l => rfl
theorem formB_1 {s : Sh} (h : s.kind = 1) : formB s = (decide (s.lists.length = 1) && decide ((s.lists.headD []).length = 1) && decide (s.parts.length = 0)) := by unfold formB; rw [h]; rfl
theorem formB_2 {s : Sh} (h : s.kind = 2) : formB s = (decide (s.lists.length = 1) && decide (s.parts.length = 0)) := by unfold formB; rw [h]; rfl
theorem formB_4 {s : Sh} (h : s.kind = 4) : formB s = (decide (s.lists.length = 1) && decide (s.parts.length = 0)) := by unfold formB; rw [h]; rfl
theorem formB_3 {s : Sh} (h : s.kind = 3) : formB s = decide (s.parts.length = 0) := by unfold formB; rw [h]; rfl
theorem formB_5 {s : Sh} (h : s.kind = 5) : formB s = decide (s.parts.length = 0) := by unfold formB; rw [h]; rfl
theorem formB_6 {s : Sh} (h : s.kind = 6) : formB s = decide (s.lists.length = 0) := by unfold formB; rw [h]; rfl
theorem formB_7 {s : Sh} (h : s.kind = 7) : formB s = decide (s.lists.length = 0) := by unfold formB; rw [h]; rfl

set_option maxRecDepth 100000 in
set_option maxHeartbeats 1000000 in
theorem counted_head (d : Nat) (hd : d ≤ 4) (s : Sh) (lv pv : Value) (w : World) (a1 a2 : Option Addr) (c1 c2 : Nat) (hl : lv = .slice a1 s.lists.length c1) (hp : pv = .slice a2 s.parts.length c2) (hb1 : s.lists.length ≤ big) (hb2 : s.parts.length ≤ big) (hh : shHead s = false) :
    Calls Tryz.prog 29 #[.agg #[.int .i64 s.kind, lv, pv], .int .i64 ((d : Int) + 1)] w (CntRet w (d + 1) s) := by
  have hr := cntOk_head (d := d) hh
  subst hl hp
  unfold shHead at hh
  unfold big at hb1 hb2
  have hd0 : ((d : Int) + 1 = 0) = False := eq_false (by omega)
  have hd1 : ((d : Int) + 1 == 0) = false := beq_eq_false_iff_ne.2 (by omega)
  by_cases h1 : s.kind < 1
  · have e1 : (s.kind < 1) = True := eq_true h1
    clear hh
    go_enter Tryz.func29, Tryz.ntmps29
    go_wp2_with fail
    go_ret3
    exact ⟨_, _, by rw [hr]; rfl, (fun h => by rw [hr] at h; cases h), _, ext_of (show Kp w _ from (by repeat (first | (with_reducible exact Kp.refl _) | (with_reducible assumption) | (with_reducible apply Kp.ext) | (with_reducible apply Kp.alloc) | (with_reducible apply Kp.drew) | (with_reducible apply Kp.drewN) | (with_reducible refine Kp.setCell ?_ (by first | (dsimp only; omega) | (simp; omega) | (simp; done) | (simp [size_ext_eq]; omega)) _))))⟩
  · have e1 : (s.kind < 1) = False := eq_false h1
    by_cases h2 : 7 < s.kind
    · have e2 : (7 < s.kind) = True := eq_true h2
      clear hh
      go_enter Tryz.func29, Tryz.ntmps29
      go_wp2_with fail
      go_ret3
      exact ⟨_, _, by rw [hr]; rfl, (fun h => by rw [hr] at h; cases h), _, ext_of (show Kp w _ from (by repeat (first | (with_reducible exact Kp.refl _) | (with_reducible assumption) | (with_reducible apply Kp.ext) | (with_reducible apply Kp.alloc) | (with_reducible apply Kp.drew) | (with_reducible apply Kp.drewN) | (with_reducible refine Kp.setCell ?_ (by first | (dsimp only; omega) | (simp; omega) | (simp; done) | (simp [size_ext_eq]; omega)) _))))⟩
    · have e2 : (7 < s.kind) = False := eq_false h2
      by_cases h3 : 40 < (s.lists.length : Int)
      · have e3 : (40 < (s.lists.length : Int)) = True := eq_true h3
        clear hh
        go_enter Tryz.func29, Tryz.ntmps29
        go_wp2_with fail
        go_ret3
        exact ⟨_, _, by rw [hr]; rfl, (fun h => by rw [hr] at h; cases h), _, ext_of (show Kp w _ from (by repeat (first | (with_reducible exact Kp.refl _) | (with_reducible assumption) | (with_reducible apply Kp.ext) | (with_reducible apply Kp.alloc) | (with_reducible apply Kp.drew) | (with_reducible apply Kp.drewN) | (with_reducible refine Kp.setCell ?_ (by first | (dsimp only; omega) | (simp; omega) | (simp; done) | (simp [size_ext_eq]; omega)) _))))⟩
      · have e3 : (40 < (s.lists.length : Int)) = False := eq_false h3
        have e4 : (40 < (s.parts.length : Int)) = True := eq_true (by
          simp only [Bool.and_eq_false_iff, decide_eq_false_iff_not] at hh
          omega)
        clear hh
        go_enter Tryz.func29, Tryz.ntmps29
        go_wp2_with fail
        go_ret3
        exact ⟨_, _, by rw [hr]; rfl, (fun h => by rw [hr] at h; cases h), _, ext_of (show Kp w _ from (by repeat (first | (with_reducible exact Kp.refl _) | (with_reducible assumption) | (with_reducible apply Kp.ext) | (with_reducible apply Kp.alloc) | (with_reducible apply Kp.drew) | (with_reducible apply Kp.drewN) | (with_reducible refine Kp.setCell ?_ (by first | (dsimp only; omega) | (simp; omega) | (simp; done) | (simp [size_ext_eq]; omega)) _))))⟩

set_option maxRecDepth 100000 in
set_option maxHeartbeats 4000000 in
theorem counted_step (d : Nat) (hd : d < 4) (s : Sh) (lv pv : Value) (w : World) (hs : ShIn (d + 1) w lv pv s) (hh : shHead s = true)
    (ih : ∀ (s : Sh) (lv pv : Value) (w : World), ShIn d w lv pv s → Calls Tryz.prog 29 #[.agg #[.int .i64 s.kind, lv, pv], .int .i64 d] w (CntRet w d s)) :
    Calls Tryz.prog 29 #[.agg #[.int .i64 s.kind, lv, pv], .int .i64 ((d : Int) + 1)] w (CntRet w (d + 1) s) := by
  have hlens := hs.lens
  obtain ⟨hls, a2, c2, rfl, hb2, hparts⟩ := hs
  obtain ⟨a1, c1, rfl, hb1, hget⟩ := hls.get
  obtain ⟨k1, k2, k3, k4⟩ := shHead_spec hh
  obtain ⟨l1, l2⟩ := hlens
  have hd0 : ((d : Int) + 1 = 0) = False := eq_false (by omega)
  have hd1 : ((d : Int) + 1 == 0) = false := beq_eq_false_iff_ne.2 (by omega)
  have e1 : (s.kind < 1) = False := eq_false (by omega)
  have e2 : (7 < s.kind) = False := eq_false (by omega)
  have e3 : (40 < (s.lists.length : Int)) = False := eq_false (by omega)
  have e4 : (40 < (s.parts.length : Int)) = False := eq_false (by omega)
  have hsumL : ∀ k, lenSum (s.lists.take k) ≤ 351843720888280 := fun k => by
    have h0 := sum_take_le List.length s.lists k
    have h1 := sum_le (f := List.length) (c := big) (l := s.lists) l1
    have h2 := Nat.mul_le_mul_right big k3
    unfold big at h1 h2
    unfold lenSum
    omega
  have Ih := Lib.hid ih
  have Hget := Lib.hid hget
  have Hparts := Lib.hid hparts
  have L2 := Lib.hid l2
  have L1 := Lib.hid l1
  have HsumL := Lib.hid hsumL
  have Hh := Lib.hid hh
  clear ih hget hparts l2 l1 hls hsumL hh
  go_enter Tryz.func29, Tryz.ntmps29
  go_wp2_with fail
  go_loopw [7, 43] (fun s7 s43 wr => ∃ k : Nat, k ≤ s.lists.length ∧ s43 = .int .i64 k ∧ s7 = .int .i64 (lenSum (s.lists.take k) : Nat) ∧ wr = w.alloc (.cells #[.int .i64 s.kind, .slice a1 s.lists.length c1, .slice a2 s.parts.length c2] 30)) (fun _ s43 _ => s.lists.length - (intOf s43).toNat)
  case atStart => exact ⟨0, Nat.zero_le _, rfl, rfl, rfl⟩
  case round =>
    obtain ⟨k, hk, rfl, rfl, rfl⟩ := hrel
    by_cases hlt : k < s.lists.length
    · obtain ⟨b, off, a', cap', rfl, hb, hc, hn', _⟩ := Hget.out k hlt
      have hsucc : lenSum (s.lists.take (k + 1)) = lenSum (s.lists.take k) + (s.lists[k]'hlt).length := sum_take_succ _ _ _ hlt
      have hb3 := HsumL.out k
      have hb4 := HsumL.out (k + 1)
      have Hsucc := Lib.hid hsucc
      have hb5 : lenSum (s.lists.take k) + (s.lists[k]'hlt).length ≤ 351843720888280 := by rw [← hsucc]; exact hb4
      clear hsucc hb4
      go_wp2_with fail
      go_roundw
      case rel => exact ⟨k + 1, by omega, by go_num, by rw [Hsucc.out]; go_num, trivial⟩
      case measure => simp [intOf]; omega
    · obtain rfl : k = s.lists.length := by omega
      have hb3 := HsumL.out s.lists.length
      rw [List.take_length] at *
      go_wp2_with fail
      go_loopw [7, 8, 55] (fun s7 s8 s55 wr => ∃ (k : Nat) (p : Int), k ≤ s.parts.length ∧ s55 = .int .i64 k ∧ s7 = .int .i64 p ∧ s8 = .int .i64 ((1 + ((s.parts.take k).map (cntM d)).sum : Nat) : Int) ∧ Kp w wr ∧
        Box3 wr w.heap.size (.int .i64 s.kind) (.slice a1 s.lists.length c1) (.slice a2 s.parts.length c2) ∧ (∀ q ∈ s.parts.take k, cntOk d q = true ∧ partB s.kind q = true) ∧
        (1 + ((s.parts.take k).map (cntM d)).sum ≤ 40 → p = (lenSum s.lists + ((s.parts.take k).map (cntP d)).sum : Nat))) (fun _ _ s55 _ => s.parts.length - (intOf s55).toNat)
      case atStart => exact ⟨0, _, Nat.zero_le _, rfl, rfl, rfl, (by repeat (first | (with_reducible exact Kp.refl _) | (with_reducible assumption) | (with_reducible apply Kp.ext) | (with_reducible apply Kp.alloc) | (with_reducible apply Kp.drew) | (with_reducible apply Kp.drewN) | (with_reducible refine Kp.setCell ?_ (by first | (dsimp only; omega) | (simp; omega) | (simp; done) | (simp [size_ext_eq]; omega)) _))), Box3.new _ _ _ _ _, (fun q hq => by simp at hq), (fun _ => by simp)⟩
      case round =>
        obtain ⟨k, p, hk, rfl, rfl, rfl, hkp, hbox, hall, hpp⟩ := hrel
        obtain ⟨hB, b0, b1, b2⟩ := id hbox
        have Hall := Lib.hid hall
        have Hpp := Lib.hid hpp
        clear hall hpp
        by_cases hlt2 : k < s.parts.length
        · obtain ⟨b, off, rfl, hb, hcell⟩ : ∃ b off, a2 = some ⟨b, off, none⟩ ∧ b < w.heap.size ∧ ∀ (i : Nat) (h : i < s.parts.length), ∃ lv' pv', w.cell? ⟨b, off + i * 3, none⟩ = some (.int .i64 (s.parts[i]'h).kind) ∧
              w.cell? ⟨b, off + i * 3 + 1, none⟩ = some lv' ∧ w.cell? ⟨b, off + i * 3 + 2, none⟩ = some pv' ∧ ShIn d w lv' pv' (s.parts[i]'h) := by
            rcases Hparts.out with h | h
            · rw [h] at hlt2; simp at hlt2
            · exact h
          obtain ⟨lv', pv', g0, g1, g2, g3⟩ := hcell k hlt2
          obtain ⟨⟨a3, n3, c3, rfl⟩, a4, n4, c4, rfl⟩ := g3.form
          have g0 := Kp.cell hkp g0 hb
          have g1 := Kp.cell hkp g1 hb
          have g2 := Kp.cell hkp g2 hb
          have hbr : b < wr.heap.size := Nat.lt_of_lt_of_le hb hkp.size
          have HI := Lib.hid (fun w' (hk' : Kp wr w') => Ih.out (s.parts[k]'hlt2) _ _ w' ((g3.kp hkp).kp hk'))
          have hmem : s.parts[k]'hlt2 ∈ s.parts := List.getElem_mem hlt2
          have hsM := sum_take_succ (cntM d) s.parts k hlt2
          have hsP := sum_take_succ (cntP d) s.parts k hlt2
          have hML : ((s.parts.take k).map (cntM d)).sum ≤ 2756840 := sumM_le hd (by rw [List.length_take]; exact Nat.le_trans (Nat.min_le_right _ _) k4) fun q hq => (Hall.out q hq).1
          have hPL : ((s.parts.take k).map (cntP d)).sum ≤ ((s.parts.take k).map (cntM d)).sum * (40 * big) := sumP_le fun q hq => ⟨(Hall.out q hq).1, L2.out q (List.mem_of_mem_take hq)⟩
          obtain ⟨q, hq⟩ : ∃ q, s.parts[k]'hlt2 = q := ⟨_, rfl⟩
          have hLq : LensOk d q := by rw [← hq]; exact L2.out _ hmem
          have hq4 : q ∈ s.parts := by rw [← hq]; exact hmem
          have hnext : cntOk d q = true ∧ partB s.kind q = true → ∀ x ∈ s.parts.take (k + 1), cntOk d x = true ∧ partB s.kind x = true := fun hok x hx => by
            rw [List.take_succ_eq_append_getElem hlt2, hq] at hx
            rcases List.mem_append.1 hx with hx | hx
            · exact Hall.out x hx
            · rw [List.mem_singleton.1 hx]; exact hok
          simp only [hq] at g0 g1 g2 g3 HI hsM hsP
          clear hq hmem hcell
          have HsM := Lib.hid hsM
          have HsP := Lib.hid hsP
          have HnX := Lib.hid hnext
          have HPL := Lib.hid hPL
          clear hsM hsP hnext hPL g3
          obtain ⟨sm, hsm⟩ : ∃ sm, ((s.parts.take k).map (cntM d)).sum = sm := ⟨_, rfl⟩
          rw [hsm] at HsM HPL Hpp hML
          simp only [hsm]
          clear hsm
          cases cok : cntOk d q
          · have hr := cntOk_part (d := d) hq4 (.inl cok)
            have Hr := Lib.hid hr
            clear hr
            go_wp2_with (go_at_call 29; (with_reducible refine (HI.out _ (by repeat (first | (with_reducible exact Kp.refl _) | (with_reducible assumption) | (with_reducible apply Kp.ext) | (with_reducible apply Kp.alloc) | (with_reducible apply Kp.drew) | (with_reducible apply Kp.drewN) | (with_reducible refine Kp.setCell ?_ (by first | (dsimp only; omega) | (simp; omega) | (simp; done) | (simp [size_ext_eq]; omega)) _)))).mono ?_); rintro e w1 ⟨p', m', rfl, hpm, u, rfl⟩; (try simp only [cok]))
            go_ret3
            exact ⟨_, _, by rw [Hr.out]; rfl, (fun h => by rw [Hr.out] at h; cases h), _, ext_of (show Kp w _ from (by repeat (first | (with_reducible exact Kp.refl _) | (with_reducible assumption) | (with_reducible apply Kp.ext) | (with_reducible apply Kp.alloc) | (with_reducible apply Kp.drew) | (with_reducible apply Kp.drewN) | (with_reducible refine Kp.setCell ?_ (by first | (dsimp only; omega) | (simp; omega) | (simp; done) | (simp [size_ext_eq]; omega)) _))))⟩
          · cases pok : partB s.kind q
            · have hr := cntOk_part (d := d) hq4 (.inr pok)
              have Hr := Lib.hid hr
              have hk6 : s.kind = 6 ∧ q.kind ≠ 3 := by
                unfold partB at pok
                simpa using pok
              have f1 : (s.kind = 6) = True := eq_true hk6.1
              have f2 : (s.kind == 6) = true := beq_iff_eq.2 hk6.1
              have f3 : (q.kind = 3) = False := eq_false hk6.2
              have f4 : (q.kind == 3) = false := beq_eq_false_iff_ne.2 hk6.2
              clear hr hk6
              go_wp2_with (go_at_call 29; (with_reducible refine (HI.out _ (by repeat (first | (with_reducible exact Kp.refl _) | (with_reducible assumption) | (with_reducible apply Kp.ext) | (with_reducible apply Kp.alloc) | (with_reducible apply Kp.drew) | (with_reducible apply Kp.drewN) | (with_reducible refine Kp.setCell ?_ (by first | (dsimp only; omega) | (simp; omega) | (simp; done) | (simp [size_ext_eq]; omega)) _)))).mono ?_); rintro e w1 ⟨p', m', rfl, hpm, u, rfl⟩; (try simp only [cok]))
              go_ret3
              exact ⟨_, _, by rw [Hr.out]; rfl, (fun h => by rw [Hr.out] at h; cases h), _, ext_of (show Kp w _ from (by repeat (first | (with_reducible exact Kp.refl _) | (with_reducible assumption) | (with_reducible apply Kp.ext) | (with_reducible apply Kp.alloc) | (with_reducible apply Kp.drew) | (with_reducible apply Kp.drewN) | (with_reducible refine Kp.setCell ?_ (by first | (dsimp only; omega) | (simp; omega) | (simp; done) | (simp [size_ext_eq]; omega)) _))))⟩
            · have hnx := HnX.out ⟨cok, pok⟩
              have hM2 : cntM d q ≤ 68921 := cntM_le3 hd cok
              have hPq := cntP_le cok hLq
              have hkk : s.kind ≠ 6 ∨ s.kind = 6 ∧ q.kind = 3 := by
                unfold partB at pok
                by_cases h6 : s.kind = 6
                · right
                  refine ⟨h6, ?_⟩
                  simpa [h6] using pok
                · exact .inl h6
              have Hnx := Lib.hid hnx
              clear hnx
              rcases hkk with h6 | ⟨h6, h3⟩
              · have f1 : (s.kind = 6) = False := eq_false h6
                have f2 : (s.kind == 6) = false := beq_eq_false_iff_ne.2 h6
                clear h6
                go_wp2_with (go_at_call 29; (with_reducible refine (HI.out _ (by repeat (first | (with_reducible exact Kp.refl _) | (with_reducible assumption) | (with_reducible apply Kp.ext) | (with_reducible apply Kp.alloc) | (with_reducible apply Kp.drew) | (with_reducible apply Kp.drewN) | (with_reducible refine Kp.setCell ?_ (by first | (dsimp only; omega) | (simp; omega) | (simp; done) | (simp [size_ext_eq]; omega)) _)))).mono ?_); rintro e w1 ⟨p', m', rfl, hpm, u, rfl⟩; (try simp only [cok]); obtain ⟨rfl, hp'⟩ := hpm cok; have Hp' := Lib.hid hp'; clear hp' hpm)
                go_roundw
                case rel =>
                  refine ⟨k + 1, _, by omega, by go_num, rfl, ?_, (by repeat (first | (with_reducible exact Kp.refl _) | (with_reducible assumption) | (with_reducible apply Kp.ext) | (with_reducible apply Kp.alloc) | (with_reducible apply Kp.drew) | (with_reducible apply Kp.drewN) | (with_reducible refine Kp.setCell ?_ (by first | (dsimp only; omega) | (simp; omega) | (simp; done) | (simp [size_ext_eq]; omega)) _))), (hbox.kp ((Kp.refl _).alloc _)).kp ((Kp.refl _).ext _), Hnx.out, ?_⟩
                  · rw [HsM.out]; go_num
                  · intro hle
                    rw [HsM.out] at hle
                    have i1 := Hpp.out (by omega)
                    have i2 := Hp'.out (by omega)
                    have i3 := HPL.out
                    have i4 := HsumL.out s.lists.length
                    rw [List.take_length] at i4
                    have i5 := Nat.mul_le_mul_right (40 * big) (show sm ≤ 40 by omega)
                    have i6 := Nat.mul_le_mul_right (40 * big) (show cntM d q ≤ 40 by omega)
                    unfold big at i3 i5 i6 hPq
                    rw [HsP.out, i1, i2]
                    unfold wrap64
                    omega
                case measure => simp [intOf]; omega
              · have f1 : (s.kind = 6) = True := eq_true h6
                have f2 : (s.kind == 6) = true := beq_iff_eq.2 h6
                have f3 : (q.kind = 3) = True := eq_true h3
                have f4 : (q.kind == 3) = true := beq_iff_eq.2 h3
                clear h6 h3
                go_wp2_with (go_at_call 29; (with_reducible refine (HI.out _ (by repeat (first | (with_reducible exact Kp.refl _) | (with_reducible assumption) | (with_reducible apply Kp.ext) | (with_reducible apply Kp.alloc) | (with_reducible apply Kp.drew) | (with_reducible apply Kp.drewN) | (with_reducible refine Kp.setCell ?_ (by first | (dsimp only; omega) | (simp; omega) | (simp; done) | (simp [size_ext_eq]; omega)) _)))).mono ?_); rintro e w1 ⟨p', m', rfl, hpm, u, rfl⟩; (try simp only [cok]); obtain ⟨rfl, hp'⟩ := hpm cok; have Hp' := Lib.hid hp'; clear hp' hpm)
                go_roundw
                case rel =>
                  refine ⟨k + 1, _, by omega, by go_num, rfl, ?_, (by repeat (first | (with_reducible exact Kp.refl _) | (with_reducible assumption) | (with_reducible apply Kp.ext) | (with_reducible apply Kp.alloc) | (with_reducible apply Kp.drew) | (with_reducible apply Kp.drewN) | (with_reducible refine Kp.setCell ?_ (by first | (dsimp only; omega) | (simp; omega) | (simp; done) | (simp [size_ext_eq]; omega)) _))), (hbox.kp ((Kp.refl _).alloc _)).kp ((Kp.refl _).ext _), Hnx.out, ?_⟩
                  · rw [HsM.out]; go_num
                  · intro hle
                    rw [HsM.out] at hle
                    have i1 := Hpp.out (by omega)
                    have i2 := Hp'.out (by omega)
                    have i3 := HPL.out
                    have i4 := HsumL.out s.lists.length
                    rw [List.take_length] at i4
                    have i5 := Nat.mul_le_mul_right (40 * big) (show sm ≤ 40 by omega)
                    have i6 := Nat.mul_le_mul_right (40 * big) (show cntM d q ≤ 40 by omega)
                    unfold big at i3 i5 i6 hPq
                    rw [HsP.out, i1, i2]
                    unfold wrap64
                    omega
                case measure => simp [intOf]; omega
        · obtain rfl : k = s.parts.length := by omega
          have hok : cntOk (d + 1) s = formB s := cntOk_form Hh.out fun p hp => Hall.out p (by rw [List.take_length]; exact hp)
          have hfin : formB s = true → (1 + ((s.parts.take s.parts.length).map (cntM d)).sum : Nat) = (cntM (d + 1) s : Int) ∧ (cntM (d + 1) s ≤ 40 → p = (cntP (d + 1) s : Int)) := fun _ => by
            have hM : cntM (d + 1) s = 1 + ((s.parts.take s.parts.length).map (cntM d)).sum := by rw [List.take_length]; rfl
            have hP : cntP (d + 1) s = lenSum s.lists + ((s.parts.take s.parts.length).map (cntP d)).sum := by rw [List.take_length]; rfl
            refine ⟨by rw [hM], fun h => ?_⟩
            rw [hM] at h
            rw [hP]
            exact Hpp.out h
          have Hok := Lib.hid hok
          have Hfin := Lib.hid hfin
          clear hok hfin Hpp Hall
          obtain ⟨sm, hsm⟩ : ∃ sm, ((s.parts.take s.parts.length).map (cntM d)).sum = sm := ⟨_, rfl⟩
          rw [hsm] at Hfin
          simp only [hsm]
          clear hsm
          obtain ⟨K, hK⟩ : ∃ K, s.kind = K := ⟨_, rfl⟩
          have hk1 : 1 ≤ K := by omega
          have hk7 : K ≤ 7 := by omega
          have hkinds : K = 1 ∨ K = 2 ∨ K = 3 ∨ K = 4 ∨ K = 5 ∨ K = 6 ∨ K = 7 := by omega
          clear e1 e2 k1 k2
          rcases hkinds with rfl | rfl | rfl | rfl | rfl | rfl | rfl
          · have hF := formB_1 hK
            rw [hK] at b0
            clear hK hk1 hk7
            by_cases ha : s.lists.length = 1
            · have h0L : 0 < s.lists.length := by omega
              obtain ⟨b9, off9, a9, cap9, rfl, hb9, hc9, _⟩ := Hget.out 0 h0L
              have hhd : (s.lists.headD []).length = (s.lists[0]'h0L).length := by rw [headD_zero _ h0L]
              have hbr9 : b9 < wr.heap.size := Nat.lt_of_lt_of_le hb9 hkp.size
              have hc9 := Kp.cell hkp hc9 hb9
              obtain ⟨fl, hfl⟩ : ∃ fl, (s.lists[0]'h0L).length = fl := ⟨_, rfl⟩
              simp only [hfl, Nat.add_zero] at hc9 hhd
              rw [hhd] at hF
              have hpos9 : (0 : Int) < (s.lists.length : Int) := by omega
              clear hfl hhd
              by_cases hc : fl = 1
              · by_cases hb : s.parts.length = 0
                · have a1 : (s.lists.length = 1) = True := eq_true (by omega)
                  have a2 : ((s.lists.length : Int) = 1) = True := eq_true (by omega)
                  have a3 : ((s.lists.length : Int) == 1) = true := beq_iff_eq.2 (by omega)
                  have a4 : (s.lists.length == 1) = true := beq_iff_eq.2 (by omega)
                  have c1 : (fl = 1) = True := eq_true (by omega)
                  have c2 : ((fl : Int) = 1) = True := eq_true (by omega)
                  have c3 : ((fl : Int) == 1) = true := beq_iff_eq.2 (by omega)
                  have c4 : (fl == 1) = true := beq_iff_eq.2 (by omega)
                  have b1 : (s.parts.length = 0) = True := eq_true (by omega)
                  have b2 : ((s.parts.length : Int) = 0) = True := eq_true (by omega)
                  have b3 : ((s.parts.length : Int) == 0) = true := beq_iff_eq.2 (by omega)
                  have b4 : (s.parts.length == 0) = true := beq_iff_eq.2 (by omega)
                  have Hf := Lib.hid (show formB s = true by rw [hF]; simp [show s.lists.length = 1 by omega, show fl = 1 by omega, show s.parts.length = 0 by omega])
                  clear ha hc hb
                  go_wp2_with fail
                  first | (with_reducible refine wp_region_ext_lit2 ?_ ?_ ?_) | refine wp_region_ext_lit ?_ ?_ ?_
                  kernel_rfl
                  kernel_rfl
                  repeat (go_big_quiet_step (fail))
                  refine wpQuiet_nil ?_
                  rintro _ ⟨u, rfl⟩
                  go_wp2_with fail
                  go_ret3
                  exact ⟨_, _, by rw [Hok.out, Hf.out]; rfl, fun h => Hfin.out (by rw [← Hok.out]; exact h), _, ext_of (show Kp w _ from (by repeat (first | (with_reducible exact Kp.refl _) | (with_reducible assumption) | (with_reducible apply Kp.ext) | (with_reducible apply Kp.alloc) | (with_reducible apply Kp.drew) | (with_reducible apply Kp.drewN) | (with_reducible refine Kp.setCell ?_ (by first | (dsimp only; omega) | (simp; omega) | (simp; done) | (simp [size_ext_eq]; omega)) _))))⟩
                · have a1 : (s.lists.length = 1) = True := eq_true (by omega)
                  have a2 : ((s.lists.length : Int) = 1) = True := eq_true (by omega)
                  have a3 : ((s.lists.length : Int) == 1) = true := beq_iff_eq.2 (by omega)
                  have a4 : (s.lists.length == 1) = true := beq_iff_eq.2 (by omega)
                  have c1 : (fl = 1) = True := eq_true (by omega)
                  have c2 : ((fl : Int) = 1) = True := eq_true (by omega)
                  have c3 : ((fl : Int) == 1) = true := beq_iff_eq.2 (by omega)
                  have c4 : (fl == 1) = true := beq_iff_eq.2 (by omega)
                  have b1 : (s.parts.length = 0) = False := eq_false (by omega)
                  have b2 : ((s.parts.length : Int) = 0) = False := eq_false (by omega)
                  have b3 : ((s.parts.length : Int) == 0) = false := beq_eq_false_iff_ne.2 (by omega)
                  have b4 : (s.parts.length == 0) = false := beq_eq_false_iff_ne.2 (by omega)
                  have Hf := Lib.hid (show formB s = false by rw [hF]; simp [show s.lists.length = 1 by omega, show fl = 1 by omega, show s.parts.length ≠ 0 by omega])
                  clear ha hc hb
                  go_wp2_with fail
                  first | (with_reducible refine wp_region_ext_lit2 ?_ ?_ ?_) | refine wp_region_ext_lit ?_ ?_ ?_
                  kernel_rfl
                  kernel_rfl
                  repeat (go_big_quiet_step (fail))
                  refine wpQuiet_nil ?_
                  rintro _ ⟨u, rfl⟩
                  go_wp2_with fail
                  go_ret3
                  exact ⟨_, _, by rw [Hok.out, Hf.out]; rfl, fun h => Hfin.out (by rw [← Hok.out]; exact h), _, ext_of (show Kp w _ from (by repeat (first | (with_reducible exact Kp.refl _) | (with_reducible assumption) | (with_reducible apply Kp.ext) | (with_reducible apply Kp.alloc) | (with_reducible apply Kp.drew) | (with_reducible apply Kp.drewN) | (with_reducible refine Kp.setCell ?_ (by first | (dsimp only; omega) | (simp; omega) | (simp; done) | (simp [size_ext_eq]; omega)) _))))⟩
              · have a1 : (s.lists.length = 1) = True := eq_true (by omega)
                have a2 : ((s.lists.length : Int) = 1) = True := eq_true (by omega)
                have a3 : ((s.lists.length : Int) == 1) = true := beq_iff_eq.2 (by omega)
                have a4 : (s.lists.length == 1) = true := beq_iff_eq.2 (by omega)
                have c1 : (fl = 1) = False := eq_false (by omega)
                have c2 : ((fl : Int) = 1) = False := eq_false (by omega)
                have c3 : ((fl : Int) == 1) = false := beq_eq_false_iff_ne.2 (by omega)
                have c4 : (fl == 1) = false := beq_eq_false_iff_ne.2 (by omega)
                have Hf := Lib.hid (show formB s = false by rw [hF]; simp [show s.lists.length = 1 by omega, show fl ≠ 1 by omega])
                clear ha hc
                go_wp2_with fail
                first | (with_reducible refine wp_region_ext_lit2 ?_ ?_ ?_) | refine wp_region_ext_lit ?_ ?_ ?_
                kernel_rfl
                kernel_rfl
                repeat (go_big_quiet_step (fail))
                refine wpQuiet_nil ?_
                rintro _ ⟨u, rfl⟩
                go_wp2_with fail
                go_ret3
                exact ⟨_, _, by rw [Hok.out, Hf.out]; rfl, fun h => Hfin.out (by rw [← Hok.out]; exact h), _, ext_of (show Kp w _ from (by repeat (first | (with_reducible exact Kp.refl _) | (with_reducible assumption) | (with_reducible apply Kp.ext) | (with_reducible apply Kp.alloc) | (with_reducible apply Kp.drew) | (with_reducible apply Kp.drewN) | (with_reducible refine Kp.setCell ?_ (by first | (dsimp only; omega) | (simp; omega) | (simp; done) | (simp [size_ext_eq]; omega)) _))))⟩
            · have a1 : (s.lists.length = 1) = False := eq_false (by omega)
              have a2 : ((s.lists.length : Int) = 1) = False := eq_false (by omega)
              have a3 : ((s.lists.length : Int) == 1) = false := beq_eq_false_iff_ne.2 (by omega)
              have a4 : (s.lists.length == 1) = false := beq_eq_false_iff_ne.2 (by omega)
              have Hf := Lib.hid (show formB s = false by rw [hF]; simp [show s.lists.length ≠ 1 by omega])
              clear ha
              go_wp2_with fail
              first | (with_reducible refine wp_region_ext_lit2 ?_ ?_ ?_) | refine wp_region_ext_lit ?_ ?_ ?_
              kernel_rfl
              kernel_rfl
              repeat (go_big_quiet_step (fail))
              refine wpQuiet_nil ?_
              rintro _ ⟨u, rfl⟩
              go_wp2_with fail
              go_ret3
              exact ⟨_, _, by rw [Hok.out, Hf.out]; rfl, fun h => Hfin.out (by rw [← Hok.out]; exact h), _, ext_of (show Kp w _ from (by repeat (first | (with_reducible exact Kp.refl _) | (with_reducible assumption) | (with_reducible apply Kp.ext) | (with_reducible apply Kp.alloc) | (with_reducible apply Kp.drew) | (with_reducible apply Kp.drewN) | (with_reducible refine Kp.setCell ?_ (by first | (dsimp only; omega) | (simp; omega) | (simp; done) | (simp [size_ext_eq]; omega)) _))))⟩
          · have hF := formB_2 hK
            rw [hK] at b0
            clear hK hk1 hk7
            by_cases ha : s.lists.length = 1
            · by_cases hb : s.parts.length = 0
              · have a1 : (s.lists.length = 1) = True := eq_true (by omega)
                have a2 : ((s.lists.length : Int) = 1) = True := eq_true (by omega)
                have a3 : ((s.lists.length : Int) == 1) = true := beq_iff_eq.2 (by omega)
                have a4 : (s.lists.length == 1) = true := beq_iff_eq.2 (by omega)
                have b1 : (s.parts.length = 0) = True := eq_true (by omega)
                have b2 : ((s.parts.length : Int) = 0) = True := eq_true (by omega)
                have b3 : ((s.parts.length : Int) == 0) = true := beq_iff_eq.2 (by omega)
                have b4 : (s.parts.length == 0) = true := beq_iff_eq.2 (by omega)
                have Hf := Lib.hid (show formB s = true by rw [hF]; simp [show s.lists.length = 1 by omega, show s.parts.length = 0 by omega])
                clear ha hb
                go_wp2_with fail
                first | (with_reducible refine wp_region_ext_lit2 ?_ ?_ ?_) | refine wp_region_ext_lit ?_ ?_ ?_
                kernel_rfl
                kernel_rfl
                repeat (go_big_quiet_step (fail))
                refine wpQuiet_nil ?_
                rintro _ ⟨u, rfl⟩
                go_wp2_with fail
                go_ret3
                exact ⟨_, _, by rw [Hok.out, Hf.out]; rfl, fun h => Hfin.out (by rw [← Hok.out]; exact h), _, ext_of (show Kp w _ from (by repeat (first | (with_reducible exact Kp.refl _) | (with_reducible assumption) | (with_reducible apply Kp.ext) | (with_reducible apply Kp.alloc) | (with_reducible apply Kp.drew) | (with_reducible apply Kp.drewN) | (with_reducible refine Kp.setCell ?_ (by first | (dsimp only; omega) | (simp; omega) | (simp; done) | (simp [size_ext_eq]; omega)) _))))⟩
              · have a1 : (s.lists.length = 1) = True := eq_true (by omega)
                have a2 : ((s.lists.length : Int) = 1) = True := eq_true (by omega)
                have a3 : ((s.lists.length : Int) == 1) = true := beq_iff_eq.2 (by omega)
                have a4 : (s.lists.length == 1) = true := beq_iff_eq.2 (by omega)
                have b1 : (s.parts.length = 0) = False := eq_false (by omega)
                have b2 : ((s.parts.length : Int) = 0) = False := eq_false (by omega)
                have b3 : ((s.parts.length : Int) == 0) = false := beq_eq_false_iff_ne.2 (by omega)
                have b4 : (s.parts.length == 0) = false := beq_eq_false_iff_ne.2 (by omega)
                have Hf := Lib.hid (show formB s = false by rw [hF]; simp [show s.lists.length = 1 by omega, show s.parts.length ≠ 0 by omega])
                clear ha hb
                go_wp2_with fail
                first | (with_reducible refine wp_region_ext_lit2 ?_ ?_ ?_) | refine wp_region_ext_lit ?_ ?_ ?_
                kernel_rfl
                kernel_rfl
                repeat (go_big_quiet_step (fail))
                refine wpQuiet_nil ?_
                rintro _ ⟨u, rfl⟩
                go_wp2_with fail
                go_ret3
                exact ⟨_, _, by rw [Hok.out, Hf.out]; rfl, fun h => Hfin.out (by rw [← Hok.out]; exact h), _, ext_of (show Kp w _ from (by repeat (first | (with_reducible exact Kp.refl _) | (with_reducible assumption) | (with_reducible apply Kp.ext) | (with_reducible apply Kp.alloc) | (with_reducible apply Kp.drew) | (with_reducible apply Kp.drewN) | (with_reducible refine Kp.setCell ?_ (by first | (dsimp only; omega) | (simp; omega) | (simp; done) | (simp [size_ext_eq]; omega)) _))))⟩
            · have a1 : (s.lists.length = 1) = False := eq_false (by omega)
              have a2 : ((s.lists.length : Int) = 1) = False := eq_false (by omega)
              have a3 : ((s.lists.length : Int) == 1) = false := beq_eq_false_iff_ne.2 (by omega)
              have a4 : (s.lists.length == 1) = false := beq_eq_false_iff_ne.2 (by omega)
              have Hf := Lib.hid (show formB s = false by rw [hF]; simp [show s.lists.length ≠ 1 by omega])
              clear ha
              go_wp2_with fail
              first | (with_reducible refine wp_region_ext_lit2 ?_ ?_ ?_) | refine wp_region_ext_lit ?_ ?_ ?_
              kernel_rfl
              kernel_rfl
              repeat (go_big_quiet_step (fail))
              refine wpQuiet_nil ?_
              rintro _ ⟨u, rfl⟩
              go_wp2_with fail
              go_ret3
              exact ⟨_, _, by rw [Hok.out, Hf.out]; rfl, fun h => Hfin.out (by rw [← Hok.out]; exact h), _, ext_of (show Kp w _ from (by repeat (first | (with_reducible exact Kp.refl _) | (with_reducible assumption) | (with_reducible apply Kp.ext) | (with_reducible apply Kp.alloc) | (with_reducible apply Kp.drew) | (with_reducible apply Kp.drewN) | (with_reducible refine Kp.setCell ?_ (by first | (dsimp only; omega) | (simp; omega) | (simp; done) | (simp [size_ext_eq]; omega)) _))))⟩
          · have hF := formB_3 hK
            rw [hK] at b0
            clear hK hk1 hk7
            by_cases hb : s.parts.length = 0
            · have b1 : (s.parts.length = 0) = True := eq_true (by omega)
              have b2 : ((s.parts.length : Int) = 0) = True := eq_true (by omega)
              have b3 : ((s.parts.length : Int) == 0) = true := beq_iff_eq.2 (by omega)
              have b4 : (s.parts.length == 0) = true := beq_iff_eq.2 (by omega)
              have Hf := Lib.hid (show formB s = true by rw [hF]; simp [show s.parts.length = 0 by omega])
              clear hb
              go_wp2_with fail
              first | (with_reducible refine wp_region_ext_lit2 ?_ ?_ ?_) | refine wp_region_ext_lit ?_ ?_ ?_
              kernel_rfl
              kernel_rfl
              repeat (go_big_quiet_step (fail))
              refine wpQuiet_nil ?_
              rintro _ ⟨u, rfl⟩
              go_wp2_with fail
              go_ret3
              exact ⟨_, _, by rw [Hok.out, Hf.out]; rfl, fun h => Hfin.out (by rw [← Hok.out]; exact h), _, ext_of (show Kp w _ from (by repeat (first | (with_reducible exact Kp.refl _) | (with_reducible assumption) | (with_reducible apply Kp.ext) | (with_reducible apply Kp.alloc) | (with_reducible apply Kp.drew) | (with_reducible apply Kp.drewN) | (with_reducible refine Kp.setCell ?_ (by first | (dsimp only; omega) | (simp; omega) | (simp; done) | (simp [size_ext_eq]; omega)) _))))⟩
            · have b1 : (s.parts.length = 0) = False := eq_false (by omega)
              have b2 : ((s.parts.length : Int) = 0) = False := eq_false (by omega)
              have b3 : ((s.parts.length : Int) == 0) = false := beq_eq_false_iff_ne.2 (by omega)
              have b4 : (s.parts.length == 0) = false := beq_eq_false_iff_ne.2 (by omega)
              have Hf := Lib.hid (show formB s = false by rw [hF]; simp [show s.parts.length ≠ 0 by omega])
              clear hb
              go_wp2_with fail
              first | (with_reducible refine wp_region_ext_lit2 ?_ ?_ ?_) | refine wp_region_ext_lit ?_ ?_ ?_
              kernel_rfl
              kernel_rfl
              repeat (go_big_quiet_step (fail))
              refine wpQuiet_nil ?_
              rintro _ ⟨u, rfl⟩
              go_wp2_with fail
              go_ret3
              exact ⟨_, _, by rw [Hok.out, Hf.out]; rfl, fun h => Hfin.out (by rw [← Hok.out]; exact h), _, ext_of (show Kp w _ from (by repeat (first | (with_reducible exact Kp.refl _) | (with_reducible assumption) | (with_reducible apply Kp.ext) | (with_reducible apply Kp.alloc) | (with_reducible apply Kp.drew) | (with_reducible apply Kp.drewN) | (with_reducible refine Kp.setCell ?_ (by first | (dsimp only; omega) | (simp; omega) | (simp; done) | (simp [size_ext_eq]; omega)) _))))⟩
          · have hF := formB_4 hK
            rw [hK] at b0
            clear hK hk1 hk7
            by_cases ha : s.lists.length = 1
            · by_cases hb : s.parts.length = 0
              · have a1 : (s.lists.length = 1) = True := eq_true (by omega)
                have a2 : ((s.lists.length : Int) = 1) = True := eq_true (by omega)
                have a3 : ((s.lists.length : Int) == 1) = true := beq_iff_eq.2 (by omega)
                have a4 : (s.lists.length == 1) = true := beq_iff_eq.2 (by omega)
                have b1 : (s.parts.length = 0) = True := eq_true (by omega)
                have b2 : ((s.parts.length : Int) = 0) = True := eq_true (by omega)
                have b3 : ((s.parts.length : Int) == 0) = true := beq_iff_eq.2 (by omega)
                have b4 : (s.parts.length == 0) = true := beq_iff_eq.2 (by omega)
                have Hf := Lib.hid (show formB s = true by rw [hF]; simp [show s.lists.length = 1 by omega, show s.parts.length = 0 by omega])
                clear ha hb
                go_wp2_with fail
                first | (with_reducible refine wp_region_ext_lit2 ?_ ?_ ?_) | refine wp_region_ext_lit ?_ ?_ ?_
                kernel_rfl
                kernel_rfl
                repeat (go_big_quiet_step (fail))
                refine wpQuiet_nil ?_
                rintro _ ⟨u, rfl⟩
                go_wp2_with fail
                go_ret3
                exact ⟨_, _, by rw [Hok.out, Hf.out]; rfl, fun h => Hfin.out (by rw [← Hok.out]; exact h), _, ext_of (show Kp w _ from (by repeat (first | (with_reducible exact Kp.refl _) | (with_reducible assumption) | (with_reducible apply Kp.ext) | (with_reducible apply Kp.alloc) | (with_reducible apply Kp.drew) | (with_reducible apply Kp.drewN) | (with_reducible refine Kp.setCell ?_ (by first | (dsimp only; omega) | (simp; omega) | (simp; done) | (simp [size_ext_eq]; omega)) _))))⟩
              · have a1 : (s.lists.length = 1) = True := eq_true (by omega)
                have a2 : ((s.lists.length : Int) = 1) = True := eq_true (by omega)
                have a3 : ((s.lists.length : Int) == 1) = true := beq_iff_eq.2 (by omega)
                have a4 : (s.lists.length == 1) = true := beq_iff_eq.2 (by omega)
                have b1 : (s.parts.length = 0) = False := eq_false (by omega)
                have b2 : ((s.parts.length : Int) = 0) = False := eq_false (by omega)
                have b3 : ((s.parts.length : Int) == 0) = false := beq_eq_false_iff_ne.2 (by omega)
                have b4 : (s.parts.length == 0) = false := beq_eq_false_iff_ne.2 (by omega)
                have Hf := Lib.hid (show formB s = false by rw [hF]; simp [show s.lists.length = 1 by omega, show s.parts.length ≠ 0 by omega])
                clear ha hb
                go_wp2_with fail
                first | (with_reducible refine wp_region_ext_lit2 ?_ ?_ ?_) | refine wp_region_ext_lit ?_ ?_ ?_
                kernel_rfl
                kernel_rfl
                repeat (go_big_quiet_step (fail))
                refine wpQuiet_nil ?_
                rintro _ ⟨u, rfl⟩
                go_wp2_with fail
                go_ret3
                exact ⟨_, _, by rw [Hok.out, Hf.out]; rfl, fun h => Hfin.out (by rw [← Hok.out]; exact h), _, ext_of (show Kp w _ from (by repeat (first | (with_reducible exact Kp.refl _) | (with_reducible assumption) | (with_reducible apply Kp.ext) | (with_reducible apply Kp.alloc) | (with_reducible apply Kp.drew) | (with_reducible apply Kp.drewN) | (with_reducible refine Kp.setCell ?_ (by first | (dsimp only; omega) | (simp; omega) | (simp; done) | (simp [size_ext_eq]; omega)) _))))⟩
            · have a1 : (s.lists.length = 1) = False := eq_false (by omega)
              have a2 : ((s.lists.length : Int) = 1) = False := eq_false (by omega)
              have a3 : ((s.lists.length : Int) == 1) = false := beq_eq_false_iff_ne.2 (by omega)
              have a4 : (s.lists.length == 1) = false := beq_eq_false_iff_ne.2 (by omega)
              have Hf := Lib.hid (show formB s = false by rw [hF]; simp [show s.lists.length ≠ 1 by omega])
              clear ha
              go_wp2_with fail
              first | (with_reducible refine wp_region_ext_lit2 ?_ ?_ ?_) | refine wp_region_ext_lit ?_ ?_ ?_
              kernel_rfl
              kernel_rfl
              repeat (go_big_quiet_step (fail))
              refine wpQuiet_nil ?_
              rintro _ ⟨u, rfl⟩
              go_wp2_with fail
              go_ret3
              exact ⟨_, _, by rw [Hok.out, Hf.out]; rfl, fun h => Hfin.out (by rw [← Hok.out]; exact h), _, ext_of (show Kp w _ from (by repeat (first | (with_reducible exact Kp.refl _) | (with_reducible assumption) | (with_reducible apply Kp.ext) | (with_reducible apply Kp.alloc) | (with_reducible apply Kp.drew) | (with_reducible apply Kp.drewN) | (with_reducible refine Kp.setCell ?_ (by first | (dsimp only; omega) | (simp; omega) | (simp; done) | (simp [size_ext_eq]; omega)) _))))⟩
          · have hF := formB_5 hK
            rw [hK] at b0
            clear hK hk1 hk7
            by_cases hb : s.parts.length = 0
            · have b1 : (s.parts.length = 0) = True := eq_true (by omega)
              have b2 : ((s.parts.length : Int) = 0) = True := eq_true (by omega)
              have b3 : ((s.parts.length : Int) == 0) = true := beq_iff_eq.2 (by omega)
              have b4 : (s.parts.length == 0) = true := beq_iff_eq.2 (by omega)
              have Hf := Lib.hid (show formB s = true by rw [hF]; simp [show s.parts.length = 0 by omega])
              clear hb
              go_wp2_with fail
              first | (with_reducible refine wp_region_ext_lit2 ?_ ?_ ?_) | refine wp_region_ext_lit ?_ ?_ ?_
              kernel_rfl
              kernel_rfl
              repeat (go_big_quiet_step (fail))
              refine wpQuiet_nil ?_
              rintro _ ⟨u, rfl⟩
              go_wp2_with fail
              go_ret3
              exact ⟨_, _, by rw [Hok.out, Hf.out]; rfl, fun h => Hfin.out (by rw [← Hok.out]; exact h), _, ext_of (show Kp w _ from (by repeat (first | (with_reducible exact Kp.refl _) | (with_reducible assumption) | (with_reducible apply Kp.ext) | (with_reducible apply Kp.alloc) | (with_reducible apply Kp.drew) | (with_reducible apply Kp.drewN) | (with_reducible refine Kp.setCell ?_ (by first | (dsimp only; omega) | (simp; omega) | (simp; done) | (simp [size_ext_eq]; omega)) _))))⟩
            · have b1 : (s.parts.length = 0) = False := eq_false (by omega)
              have b2 : ((s.parts.length : Int) = 0) = False := eq_false (by omega)
              have b3 : ((s.parts.length : Int) == 0) = false := beq_eq_false_iff_ne.2 (by omega)
              have b4 : (s.parts.length == 0) = false := beq_eq_false_iff_ne.2 (by omega)
              have Hf := Lib.hid (show formB s = false by rw [hF]; simp [show s.parts.length ≠ 0 by omega])
              clear hb
              go_wp2_with fail
              first | (with_reducible refine wp_region_ext_lit2 ?_ ?_ ?_) | refine wp_region_ext_lit ?_ ?_ ?_
              kernel_rfl
              kernel_rfl
              repeat (go_big_quiet_step (fail))
              refine wpQuiet_nil ?_
              rintro _ ⟨u, rfl⟩
              go_wp2_with fail
              go_ret3
              exact ⟨_, _, by rw [Hok.out, Hf.out]; rfl, fun h => Hfin.out (by rw [← Hok.out]; exact h), _, ext_of (show Kp w _ from (by repeat (first | (with_reducible exact Kp.refl _) | (with_reducible assumption) | (with_reducible apply Kp.ext) | (with_reducible apply Kp.alloc) | (with_reducible apply Kp.drew) | (with_reducible apply Kp.drewN) | (with_reducible refine Kp.setCell ?_ (by first | (dsimp only; omega) | (simp; omega) | (simp; done) | (simp [size_ext_eq]; omega)) _))))⟩
          · have hF := formB_6 hK
            rw [hK] at b0
            clear hK hk1 hk7
            by_cases ha : s.lists.length = 0
            · have a1 : (s.lists.length = 0) = True := eq_true (by omega)
              have a2 : ((s.lists.length : Int) = 0) = True := eq_true (by omega)
              have a3 : ((s.lists.length : Int) == 0) = true := beq_iff_eq.2 (by omega)
              have a4 : (s.lists.length == 0) = true := beq_iff_eq.2 (by omega)
              have Hf := Lib.hid (show formB s = true by rw [hF]; simp [show s.lists.length = 0 by omega])
              clear ha
              go_wp2_with fail
              first | (with_reducible refine wp_region_ext_lit2 ?_ ?_ ?_) | refine wp_region_ext_lit ?_ ?_ ?_
              kernel_rfl
              kernel_rfl
              repeat (go_big_quiet_step (fail))
              refine wpQuiet_nil ?_
              rintro _ ⟨u, rfl⟩
              go_wp2_with fail
              go_ret3
              exact ⟨_, _, by rw [Hok.out, Hf.out]; rfl, fun h => Hfin.out (by rw [← Hok.out]; exact h), _, ext_of (show Kp w _ from (by repeat (first | (with_reducible exact Kp.refl _) | (with_reducible assumption) | (with_reducible apply Kp.ext) | (with_reducible apply Kp.alloc) | (with_reducible apply Kp.drew) | (with_reducible apply Kp.drewN) | (with_reducible refine Kp.setCell ?_ (by first | (dsimp only; omega) | (simp; omega) | (simp; done) | (simp [size_ext_eq]; omega)) _))))⟩
            · have a1 : (s.lists.length = 0) = False := eq_false (by omega)
              have a2 : ((s.lists.length : Int) = 0) = False := eq_false (by omega)
              have a3 : ((s.lists.length : Int) == 0) = false := beq_eq_false_iff_ne.2 (by omega)
              have a4 : (s.lists.length == 0) = false := beq_eq_false_iff_ne.2 (by omega)
              have Hf := Lib.hid (show formB s = false by rw [hF]; simp [show s.lists.length ≠ 0 by omega])
              clear ha
              go_wp2_with fail
              first | (with_reducible refine wp_region_ext_lit2 ?_ ?_ ?_) | refine wp_region_ext_lit ?_ ?_ ?_
              kernel_rfl
              kernel_rfl
              repeat (go_big_quiet_step (fail))
              refine wpQuiet_nil ?_
              rintro _ ⟨u, rfl⟩
              go_wp2_with fail
              go_ret3
              exact ⟨_, _, by rw [Hok.out, Hf.out]; rfl, fun h => Hfin.out (by rw [← Hok.out]; exact h), _, ext_of (show Kp w _ from (by repeat (first | (with_reducible exact Kp.refl _) | (with_reducible assumption) | (with_reducible apply Kp.ext) | (with_reducible apply Kp.alloc) | (with_reducible apply Kp.drew) | (with_reducible apply Kp.drewN) | (with_reducible refine Kp.setCell ?_ (by first | (dsimp only; omega) | (simp; omega) | (simp; done) | (simp [size_ext_eq]; omega)) _))))⟩
          · have hF := formB_7 hK
            rw [hK] at b0
            clear hK hk1 hk7
            by_cases ha : s.lists.length = 0
            · have a1 : (s.lists.length = 0) = True := eq_true (by omega)
              have a2 : ((s.lists.length : Int) = 0) = True := eq_true (by omega)
              have a3 : ((s.lists.length : Int) == 0) = true := beq_iff_eq.2 (by omega)
              have a4 : (s.lists.length == 0) = true := beq_iff_eq.2 (by omega)
              have Hf := Lib.hid (show formB s = true by rw [hF]; simp [show s.lists.length = 0 by omega])
              clear ha
              go_wp2_with fail
              first | (with_reducible refine wp_region_ext_lit2 ?_ ?_ ?_) | refine wp_region_ext_lit ?_ ?_ ?_
              kernel_rfl
              kernel_rfl
              repeat (go_big_quiet_step (fail))
              refine wpQuiet_nil ?_
              rintro _ ⟨u, rfl⟩
              go_wp2_with fail
              go_ret3
              exact ⟨_, _, by rw [Hok.out, Hf.out]; rfl, fun h => Hfin.out (by rw [← Hok.out]; exact h), _, ext_of (show Kp w _ from (by repeat (first | (with_reducible exact Kp.refl _) | (with_reducible assumption) | (with_reducible apply Kp.ext) | (with_reducible apply Kp.alloc) | (with_reducible apply Kp.drew) | (with_reducible apply Kp.drewN) | (with_reducible refine Kp.setCell ?_ (by first | (dsimp only; omega) | (simp; omega) | (simp; done) | (simp [size_ext_eq]; omega)) _))))⟩
            · have a1 : (s.lists.length = 0) = False := eq_false (by omega)
              have a2 : ((s.lists.length : Int) = 0) = False := eq_false (by omega)
              have a3 : ((s.lists.length : Int) == 0) = false := beq_eq_false_iff_ne.2 (by omega)
              have a4 : (s.lists.length == 0) = false := beq_eq_false_iff_ne.2 (by omega)
              have Hf := Lib.hid (show formB s = false by rw [hF]; simp [show s.lists.length ≠ 0 by omega])
              clear ha
              go_wp2_with fail
              first | (with_reducible refine wp_region_ext_lit2 ?_ ?_ ?_) | refine wp_region_ext_lit ?_ ?_ ?_
              kernel_rfl
              kernel_rfl
              repeat (go_big_quiet_step (fail))
              refine wpQuiet_nil ?_
              rintro _ ⟨u, rfl⟩
              go_wp2_with fail
              go_ret3
              exact ⟨_, _, by rw [Hok.out, Hf.out]; rfl, fun h => Hfin.out (by rw [← Hok.out]; exact h), _, ext_of (show Kp w _ from (by repeat (first | (with_reducible exact Kp.refl _) | (with_reducible assumption) | (with_reducible apply Kp.ext) | (with_reducible apply Kp.alloc) | (with_reducible apply Kp.drew) | (with_reducible apply Kp.drewN) | (with_reducible refine Kp.setCell ?_ (by first | (dsimp only; omega) | (simp; omega) | (simp; done) | (simp [size_ext_eq]; omega)) _))))⟩
end Go.Proofs.YtobdohhabgnjiaaGreatDoor
