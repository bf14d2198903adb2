/-
  Lists the other way round, and lists that are the same: spec.SamePoints, LineString.Reverse, impl.Reversed.
-/
import Derived.Test.YtdkadjjapmcadaaLine
import Derived.Test.YtdkadjjapmcadaaWt
import Derived.Test.YtdkadjjapmcadaaWm
import Derived.BigRegion
namespace Go.Proofs.Ytdkadjjapmcadaa
open PubFl Go.RowKit

attribute [local go_sem] cell_ext frozen_ext ext_setCell cell_store size_ext_eq lt_p0 lt_p1 lt_p2 lt_p3 lt_p4 lt_p5 lt_p6 lt_p7 lt_p8 lt_p9 lt_p10 lt_p11 lt_p12 lt_p13 lt_p14 lt_p15 lt_p16 lt_p17 lt_p18 lt_p19 lt_p20 lt_p21 lt_p22 lt_p23 lt_p24 lt_p25 lt_p26 lt_p27 lt_p28 lt_p29 lt_p30 lt_p31 lt_p32 lt_q1 lt_q2 lt_q3 lt_q4 lt_q5 lt_q6 lt_q7 lt_q8 lt_q9 lt_q10 lt_q11 lt_q12 lt_q13 lt_q14 lt_q15 lt_q16 lt_q17 lt_q18 lt_q19 lt_q20 lt_q21 lt_q22 lt_q23 lt_q24 lt_q25 lt_q26 lt_q27 lt_q28 lt_q29 lt_q30 lt_q31 lt_q32 run_fop run_store_float
attribute [local go_sem high] cmp_eql cmp_neq cmp_lss cmp_leq cmp_gtr cmp_geq
attribute [local go_sem] x_bits

theorem getD_in (ps : List (Nat × Nat)) (j : Nat) (h : j < ps.length) : ps.getD j (0, 0) = ps[j] := by simp [List.getD, h]
theorem sameBits_c (a : Nat) (w : World) : Calls Try.prog 48 #[.float .f64 a, .float .f64 a] w (Ret w (.bool true)) := by
  go_enter Try.func48, Try.ntmps48
  go_wp2_with fail
  go_ret
  exact Ret.mk rfl (by repeat (first | (with_reducible exact Kp.refl _) | (with_reducible assumption) | (with_reducible apply Kp.ext) | (with_reducible apply Kp.alloc) | (with_reducible apply Kp.drew) | (with_reducible apply Kp.drewN) | (with_reducible refine Kp.setCell ?_ (by first | (dsimp only; omega) | (simp; omega) | (simp; done) | (simp [size_ext_eq]; omega)) _)))

theorem PtsIn.cells {w : World} {a : Option Addr} {ps : List (Nat × Nat)} (h : PtsIn w a ps) (hp : 0 < ps.length) : ∃ b off, a = some ⟨b, off, none⟩ ∧ b < w.heap.size ∧ PtsAt w b off ps := by
  rcases h with h | h
  · subst h; simp at hp
  · exact h

set_option maxHeartbeats 1000000 in
theorem samePts_c (a a' : Option Addr) (cap cap' : Nat) (ps : List (Nat × Nat)) (hn : ps.length ≤ 2147483647) (w : World) (hs : PtsIn w a ps) (hs' : PtsIn w a' ps) :
    Calls Try.prog 17 #[.slice a ps.length cap, .slice a' ps.length cap'] w (Ret w (.bool true)) := by
  go_enter Try.func17, Try.ntmps17
  go_wp2_with fail
  go_loopw [13] (fun i wr => ∃ k : Nat, k ≤ ps.length ∧ i = .int .i64 k ∧ Kp w wr) (fun i _ => ps.length - (intOf i).toNat)
  case atStart => exact ⟨0, Nat.zero_le _, rfl, (by repeat (first | (with_reducible exact Kp.refl _) | (with_reducible assumption) | (with_reducible apply Kp.ext) | (with_reducible apply Kp.alloc) | (with_reducible apply Kp.drew) | (with_reducible apply Kp.drewN) | (with_reducible refine Kp.setCell ?_ (by first | (dsimp only; omega) | (simp; omega) | (simp; done) | (simp [size_ext_eq]; omega)) _)))⟩
  case round =>
    obtain ⟨k, hkn, rfl, hkp⟩ := hrel
    by_cases hlt : k < ps.length
    · obtain ⟨b, off, rfl, hb, hpt⟩ := hs.cells (by omega)
      obtain ⟨b', off', rfl, hb', hpt'⟩ := hs'.cells (by omega)
      obtain ⟨e0, e1⟩ := hpt.kp hb hkp k hlt
      obtain ⟨f0, f1⟩ := hpt'.kp hb' hkp k hlt
      obtain ⟨⟨px, py⟩, hq⟩ : ∃ q, ps[k]'hlt = q := ⟨_, rfl⟩
      rw [hq] at e0 e1 f0 f1
      clear hq
      have hbk : b < wr.heap.size := Nat.lt_of_lt_of_le hb hkp.size
      have hbk' : b' < wr.heap.size := Nat.lt_of_lt_of_le hb' hkp.size
      go_wp2_with fail
      first | (with_reducible refine wp_region_ext_lit2 ?_ ?_ ?_) | refine wp_region_ext_lit ?_ ?_ ?_
      kernel_rfl
      kernel_rfl
      repeat (go_big_quiet_step ((go_at_call 48; exact Ret.quiet (sameBits_c _ _))))
      refine wpQuiet_nil ?_
      rintro _ ⟨u, rfl⟩
      go_wp2_with fail
      go_roundw
      case rel => exact ⟨k + 1, by omega, by go_num, (by repeat (first | (with_reducible exact Kp.refl _) | (with_reducible assumption) | (with_reducible apply Kp.ext) | (with_reducible apply Kp.alloc) | (with_reducible apply Kp.drew) | (with_reducible apply Kp.drewN) | (with_reducible refine Kp.setCell ?_ (by first | (dsimp only; omega) | (simp; omega) | (simp; done) | (simp [size_ext_eq]; omega)) _)))⟩
      case measure => simp [intOf]; omega
    · obtain rfl : k = ps.length := by omega
      go_wp2_with fail
      go_ret
      exact Ret.mk rfl (by repeat (first | (with_reducible exact Kp.refl _) | (with_reducible assumption) | (with_reducible apply Kp.ext) | (with_reducible apply Kp.alloc) | (with_reducible apply Kp.drew) | (with_reducible apply Kp.drewN) | (with_reducible refine Kp.setCell ?_ (by first | (dsimp only; omega) | (simp; omega) | (simp; done) | (simp [size_ext_eq]; omega)) _)))

/-- k points from either end have changed places -/
def mixed (ps : List (Nat × Nat)) (k : Nat) : List (Nat × Nat) := (List.range ps.length).map fun j => if j < k ∨ ps.length - 1 - j < k then ps.getD (ps.length - 1 - j) (0, 0) else ps.getD j (0, 0)
theorem mixed_length (ps : List (Nat × Nat)) (k : Nat) : (mixed ps k).length = ps.length := by simp [mixed]
theorem mixed_get (ps : List (Nat × Nat)) (k j : Nat) (h : j < (mixed ps k).length) : (mixed ps k)[j] = if j < k ∨ ps.length - 1 - j < k then ps.getD (ps.length - 1 - j) (0, 0) else ps.getD j (0, 0) := by simp [mixed]
theorem mixed_zero (ps : List (Nat × Nat)) : mixed ps 0 = ps := by
  apply List.ext_getElem (mixed_length _ _)
  intro j h1 h2
  rw [mixed_get, if_neg (by omega), getD_in _ _ h2]
theorem mixed_all (ps : List (Nat × Nat)) (k : Nat) (h : ps.length ≤ 2 * k) : mixed ps k = ps.reverse := by
  apply List.ext_getElem (by rw [mixed_length]; simp)
  intro j h1 h2
  rw [mixed_length] at h1
  rw [mixed_get, if_pos (by omega), List.getElem_reverse, getD_in _ _ (by omega)]
theorem mixed_succ (ps : List (Nat × Nat)) (k : Nat) (h : 2 * k < ps.length) : mixed ps (k + 1) = ((mixed ps k).set k (ps.getD (ps.length - 1 - k) (0, 0))).set (ps.length - 1 - k) (ps.getD k (0, 0)) := by
  apply List.ext_getElem (by simp [mixed_length])
  intro j h1 h2
  rw [mixed_length] at h1
  rw [mixed_get, List.getElem_set, List.getElem_set, mixed_get]
  by_cases c1 : ps.length - 1 - k = j
  · rw [if_pos c1, if_pos (by omega), show ps.length - 1 - j = k by omega]
  · rw [if_neg c1]
    by_cases c2 : k = j
    · rw [if_pos c2, if_pos (by omega), c2]
    · rw [if_neg c2]
      by_cases c3 : j < k ∨ ps.length - 1 - j < k
      · rw [if_pos c3, if_pos (by omega)]
      · rw [if_neg c3, if_neg (by omega)]

theorem cell_set2 {w : World} {g o o' : Nat} {x y : Value} (h : (w.cell? ⟨g, o, none⟩).isSome) : ((w.setCell ⟨g, o, none⟩ x).cell? ⟨g, o', none⟩) = if o = o' then some x else w.cell? ⟨g, o', none⟩ := by
  by_cases c : o = o'
  · subst c
    rw [if_pos rfl, cell_store]
    cases hh : w.cell? ⟨g, o, none⟩ with
    | none => rw [hh] at h; cases h
    | some _ => rfl
  · rw [if_neg c, World.cell?_setCell_other _ _ _ _ (by intro e; cases e; exact c rfl)]
theorem PtsAt.set {w : World} {g off : Nat} {ps : List (Nat × Nat)} (h : PtsAt w g off ps) {i : Nat} (hi : i < ps.length) (x y : Nat) :
    PtsAt ((w.setCell ⟨g, off + i * 2, none⟩ (.float .f64 x)).setCell ⟨g, off + i * 2 + 1, none⟩ (.float .f64 y)) g off (ps.set i (x, y)) := by
  obtain ⟨a0, a1⟩ := h i hi
  have s0 : ∀ o', (w.setCell ⟨g, off + i * 2, none⟩ (.float .f64 x)).cell? ⟨g, o', none⟩ = if off + i * 2 = o' then some (.float .f64 x) else w.cell? ⟨g, o', none⟩ := fun o' => cell_set2 (y := .bool true) (by rw [a0]; rfl)
  have s1 : ∀ o', ((w.setCell ⟨g, off + i * 2, none⟩ (.float .f64 x)).setCell ⟨g, off + i * 2 + 1, none⟩ (.float .f64 y)).cell? ⟨g, o', none⟩ = if off + i * 2 + 1 = o' then some (.float .f64 y) else if off + i * 2 = o' then some (.float .f64 x) else w.cell? ⟨g, o', none⟩ := fun o' => by
    rw [cell_set2 (y := .bool true) (by rw [s0, if_neg (by omega), a1]; rfl), s0]
  intro j hj
  rw [List.length_set] at hj
  rw [s1, s1, List.getElem_set]
  obtain ⟨b0, b1⟩ := h j hj
  by_cases c : i = j
  · subst c
    rw [if_pos rfl, if_neg (by omega), if_pos rfl, if_pos rfl]
    exact ⟨rfl, rfl⟩
  · rw [if_neg c, if_neg (by omega), if_neg (by omega), if_neg (by omega), if_neg (by omega)]
    exact ⟨b0, b1⟩

theorem kp_trans' {a w u : World} {g : Nat} (h : Kp a w) (k : Below g w u) (hg : a.heap.size ≤ g) : Kp a u := Below.trans h (Below.mono k hg)
/-- what Reverse leaves -/
def RevPost (w : World) (g off : Nat) (ps : List (Nat × Nat)) (e : Ending) (w' : World) : Prop := e = .returned (.tuple #[]) ∧ Below g w w' ∧ w.heap.size ≤ w'.heap.size ∧ PtsAt w' g off ps.reverse ∧ (∀ j, w'.frozen? ⟨g, j, none⟩ = false)

theorem reverse_short_c (a : Option Addr) (n cap : Nat) (h1 : n ≤ 1) (w : World) :
    Calls Try.prog 46 #[.slice a n cap] w (fun e w' => e = .returned (.tuple #[]) ∧ w' = w) := by
  have hlen : ((n : Int) - 1) < 1 := by omega
  go_enter Try.func46, Try.ntmps46
  go_wp2_with fail
  refine bodyPost_ret (results_none rfl _ _ _) rfl ?_
  exact ⟨rfl, rfl⟩
set_option maxHeartbeats 1000000 in
theorem reverse_c (g off cap : Nat) (ps : List (Nat × Nat)) (hn : ps.length ≤ 2147483647) (w : World) (hg : g < w.heap.size) (hs : PtsAt w g off ps) (hf : ∀ j, w.frozen? ⟨g, j, none⟩ = false) :
    Calls Try.prog 46 #[.slice (some ⟨g, off, none⟩) ps.length cap] w (RevPost w g off ps) := by
  by_cases h1 : ps.length ≤ 1
  · have hrev : ps.reverse = ps := by
      match ps, h1 with
      | [], _ => rfl
      | [p], _ => rfl
    refine (reverse_short_c _ _ _ h1 w).mono ?_
    rintro e w' ⟨rfl, rfl⟩
    exact ⟨rfl, Below.refl _ _, Nat.le_refl _, by rw [hrev]; exact hs, hf⟩
  · obtain ⟨l, hl⟩ : ∃ l : Nat, ps.length = l + 1 := ⟨ps.length - 1, by omega⟩
    have hsum : ((ps.length : Int) - 1) = (l : Int) := by omega
    go_enter Try.func46, Try.ntmps46
    go_wp2_with fail
    go_loopw [3] (fun i wr => ∃ k : Nat, 2 * k ≤ ps.length + 1 ∧ i = .int .i64 k ∧ Below g w wr ∧ w.heap.size ≤ wr.heap.size ∧ PtsAt wr g off (mixed ps k) ∧ (∀ j, wr.frozen? ⟨g, j, none⟩ = false)) (fun i _ => ps.length - (intOf i).toNat)
    case atStart => exact ⟨0, Nat.zero_le _, rfl, Below.refl _ _, Nat.le_refl _, by rw [mixed_zero]; exact hs, hf⟩
    case round =>
      obtain ⟨k, hkn, rfl, hbl, hsz, hpt, hfr⟩ := hrel
      by_cases hlt : 2 * k < ps.length
      · obtain ⟨j, hj⟩ : ∃ j : Nat, j + k = l := ⟨l - k, by omega⟩
        have hjs : ((l : Int) - (k : Int)) = (j : Int) := by omega
        have hq : ((l : Int).tdiv 2) = ((l / 2 : Nat) : Int) := by rw [Int.tdiv_eq_ediv_of_nonneg (by omega)]; omega
        have hle : (k : Int) ≤ ((l / 2 : Nat) : Int) := by omega
        have hkl : k < (mixed ps k).length := by rw [mixed_length]; omega
        have hjl : j < (mixed ps k).length := by rw [mixed_length]; omega
        obtain ⟨a0, a1⟩ := hpt k hkl
        obtain ⟨b0, b1⟩ := hpt j hjl
        have hset := hpt.set hkl ((mixed ps k)[j]).1 ((mixed ps k)[j]).2
        obtain ⟨c0, c1⟩ := hset j (by rw [List.length_set]; exact hjl)
        have hset2 := hset.set (i := j) (by rw [List.length_set]; exact hjl) ((mixed ps k)[k]).1 ((mixed ps k)[k]).2
        have hgw : g < wr.heap.size := by omega
        go_wp2_with fail
        go_region
        go_wp2_with fail
        go_roundw
        case rel =>
          have hm : mixed ps (k + 1) = ((mixed ps k).set k ((mixed ps k)[j].1, (mixed ps k)[j].2)).set j ((mixed ps k)[k].1, (mixed ps k)[k].2) := by
            rw [mixed_succ ps k hlt, mixed_get, mixed_get, if_neg (by omega), if_neg (by omega), show ps.length - 1 - k = j by omega]
          refine ⟨k + 1, by omega, by go_num, ?_, ?_, ?_, ?_⟩
          · exact (Below.setCell (Below.setCell (Below.setCell (Below.setCell hbl (p := ⟨g, _, none⟩) (Nat.le_refl _) _) (p := ⟨g, _, none⟩) (Nat.le_refl _) _) (p := ⟨g, _, none⟩) (Nat.le_refl _) _) (p := ⟨g, _, none⟩) (Nat.le_refl _) _).drew
          · simpa using hsz
          · rw [hm]; exact hset2.kp (by simpa using hgw) (Kp.refl _).drew
          · intro q
            simpa using hfr q
        case measure => simp [intOf]; omega
      · have hq : ((l : Int).tdiv 2) = ((l / 2 : Nat) : Int) := by rw [Int.tdiv_eq_ediv_of_nonneg (by omega)]; omega
        have hnl : ((k : Int) ≤ (l : Int) / 2) = False := eq_false (by omega)
        rw [mixed_all _ _ (by omega)] at hpt
        clear hlt hq
        go_wp2_with fail
        go_end0
        exact ⟨rfl, hbl, hsz, hpt, hfr⟩

theorem PtsNew.wide {w w0 w' : World} {e : TypeId} {v : Value} {ps : List (Nat × Nat)} (h : PtsNew w w' e v ps) (k : w0.heap.size ≤ w.heap.size) : PtsNew w0 w' e v ps := by
  obtain ⟨hl, h⟩ := h
  refine ⟨hl, ?_⟩
  rcases h with h | ⟨g, cap, cur, hv, hg, h⟩
  · exact .inl h
  · exact .inr ⟨g, cap, cur, hv, Nat.le_trans k hg, h⟩

/-- impl.Reversed -/
theorem reversed_c (a : Option Addr) (cap : Nat) (ps : List (Nat × Nat)) (hn : ps.length ≤ 2147483647) (w : World) (hs : PtsIn w a ps) :
    Calls Try.prog 15 #[.slice a ps.length cap] w (RetO w 28 ps.reverse) := by
  go_enter Try.func15, Try.ntmps15
  go_wp2_with (go_at_call 44; refine (pointsOf_c _ _ _ hn _ hs).mono ?_; rintro e w1 ⟨v, u, rfl, hu, hp⟩)
  have hk1 : Kp w w1 := by rw [hu]; exact (by repeat (first | (with_reducible exact Kp.refl _) | (with_reducible assumption) | (with_reducible apply Kp.ext) | (with_reducible apply Kp.alloc) | (with_reducible apply Kp.drew) | (with_reducible apply Kp.drewN) | (with_reducible refine Kp.setCell ?_ (by first | (dsimp only; omega) | (simp; omega) | (simp; done) | (simp [size_ext_eq]; omega)) _)))
  rw [← hu]
  clear hu
  by_cases h0 : 0 < ps.length
  · obtain ⟨g, cap', rfl, hg1, hg2, _, _, hpt⟩ := hp.form h0
    have hfr : ∀ j, w1.frozen? ⟨g, j, none⟩ = false := fun j => hp.frozenAt j
    go_wp2_with (go_at_call 46; refine (reverse_c _ _ _ _ hn _ hg2 hpt hfr).mono ?_; rintro e w2 ⟨rfl, hb2, hs2, hpt2, hfr2⟩)
    have hk2 : Kp w w2 := kp_trans' hk1 hb2 hg1
    have hl : ps.length = ps.reverse.length := List.length_reverse.symm
    have hn2 : ps.reverse.length ≤ 2147483647 := by rw [← hl]; exact hn
    rw [hl]
    clear hl hn hs h0 hp hpt hfr
    generalize ps.reverse = qs at *
    go_wp2_with (go_at_call 47; refine (listOf_c _ _ _ hn2 _ (.inr ⟨g, 0, rfl, by omega, hpt2⟩)).mono ?_; rintro e w3 ⟨v, u, rfl, hu, hp3⟩)
    have hk3 : Kp w w3 := by rw [hu]; exact hk2.ext u
    rw [← hu]
    clear hu
    go_ret
    exact RetO.mk rfl hk3 (hp3.wide hk2.size)
  · obtain rfl : ps = [] := List.eq_nil_of_length_eq_zero (by omega)
    obtain ⟨a', cap', rfl⟩ := hp.empty
    go_wp2_with (first | (go_at_call 46; refine (reverse_short_c _ _ _ (Nat.zero_le _) _).mono ?_; rintro e w2 ⟨rfl, rfl⟩) | (go_at_call 47; refine (listOf_c _ _ [] hn _ (.inl rfl)).mono ?_; rintro e w3 ⟨v, u, rfl, hu, hp3⟩))
    have hk3 : Kp w w3 := by rw [hu]; exact hk1.ext u
    rw [← hu]
    clear hu
    go_ret
    exact RetO.mk rfl hk3 (hp3.wide hk1.size)
end Go.Proofs.Ytdkadjjapmcadaa
