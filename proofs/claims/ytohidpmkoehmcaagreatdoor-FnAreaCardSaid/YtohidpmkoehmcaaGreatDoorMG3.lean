/-
  Lists the other way round, and lists that are the same: spec.SamePoints, LineString.Reverse, impl.Reversed.
  impl.Closed; spec.square closed.
  laws.square in use; one point like another.
  spec.IsRing.
-/
import Derived.Test.YtohidpmkoehmcaaGreatDoorLine
import Derived.Test.YtohidpmkoehmcaaGreatDoorWt
import Derived.Test.YtohidpmkoehmcaaGreatDoorWm
import Derived.BigRegion
import Derived.Test.YtohidpmkoehmcaaGreatDoorEq
set_option linter.all false
namespace Go.Proofs.YtohidpmkoehmcaaGreatDoor
open PubFl Go.RowKit

attribute [local go_sem] cell_ext frozen_ext ext_setCell cell_store size_ext_eq lt_p0 lt_p1 lt_p2 lt_p3 lt_p4 lt_p5 lt_p6 lt_p7 lt_p8 lt_p9 lt_p10 lt_p11 lt_p12 lt_p13 lt_p14 lt_p15 lt_p16 lt_p17 lt_p18 lt_p19 lt_p20 lt_p21 lt_p22 lt_p23 lt_p24 lt_p25 lt_p26 lt_p27 lt_p28 lt_p29 lt_p30 lt_p31 lt_p32 lt_q1 lt_q2 lt_q3 lt_q4 lt_q5 lt_q6 lt_q7 lt_q8 lt_q9 lt_q10 lt_q11 lt_q12 lt_q13 lt_q14 lt_q15 lt_q16 lt_q17 lt_q18 lt_q19 lt_q20 lt_q21 lt_q22 lt_q23 lt_q24 lt_q25 lt_q26 lt_q27 lt_q28 lt_q29 lt_q30 lt_q31 lt_q32 run_fop run_store_float
attribute [local go_sem high] cmp_eql cmp_neq cmp_lss cmp_leq cmp_gtr cmp_geq
attribute [local go_sem] x_bits

theorem getD_in (ps : List (Nat × Nat)) (j : Nat) (h : j < ps.length) : ps.getD j (0, 0) = ps[j] := by simp [List.getD, h]
theorem PtsIn.kp {w w' : World} {a : Option Addr} {ps : List (Nat × Nat)} (hs : PtsIn w a ps) (hk : Kp w w') : PtsIn w' a ps := by
  rcases hs with h | ⟨b, off, rfl, hb, hpt⟩
  · exact .inl h
  · exact .inr ⟨b, off, rfl, Nat.lt_of_lt_of_le hb hk.size, hpt.kp hb hk⟩
theorem PtsIn.cells {w : World} {a : Option Addr} {ps : List (Nat × Nat)} (h : PtsIn w a ps) (hp : 0 < ps.length) : ∃ b off, a = some ⟨b, off, none⟩ ∧ b < w.heap.size ∧ PtsAt w b off ps := by
  rcases h with h | h
  · subst h; simp at hp
  · exact h

/-- k points from either end have changed places -/
def mixed (ps : List (Nat × Nat)) (k : Nat) : List (Nat × Nat) := (List.range ps.length).map fun j => if j < k ∨ ps.length - 1 - j < k then ps.getD (ps.length - 1 - j) (0, 0) else ps.getD j (0, 0)
theorem mixed_length (ps : List (Nat × Nat)) (k : Nat) : (mixed ps k).length = ps.length := by simp [mixed]
theorem mixed_get (ps : List (Nat × Nat)) (k j : Nat) (h : j < (mixed ps k).length) : (mixed ps k)[j] = if j < k ∨ ps.length - 1 - j < k then ps.getD (ps.length - 1 - j) (0, 0) else ps.getD j (0, 0) := by simp [mixed]
theorem mixed_zero (ps : List (Nat × Nat)) : mixed ps 0 = ps := by
  apply List.ext_getElem (mixed_length _ _)
  intro j h1 h2
  rw [mixed_get, if_neg (by omega), getD_in _ _ h2]
theorem mixed_all (ps : List (Nat × Nat)) (k : Nat) (h : ps.length ≤ 2 * k) : mixed ps k = ps.reverse := by
  apply List.ext_getElem (by rw [mixed_length]; simp)
  intro j h1 h2
  rw [mixed_length] at h1
  rw [mixed_get, if_pos (by omega), List.getElem_reverse, getD_in _ _ (by omega)]
theorem mixed_succ (ps : List (Nat × Nat)) (k : Nat) (h : 2 * k < ps.length) : mixed ps (k + 1) = ((mixed ps k).set k (ps.getD (ps.length - 1 - k) (0, 0))).set (ps.length - 1 - k) (ps.getD k (0, 0)) := by
  apply List.ext_getElem (by simp [mixed_length])
  intro j h1 h2
  rw [mixed_length] at h1
  rw [mixed_get, List.getElem_set, List.getElem_set, mixed_get]
  by_cases c1 : ps.length - 1 - k = j
  · rw [if_pos c1, if_pos (by omega), show ps.length - 1 - j = k by omega]
  · rw [if_neg c1]
    by_cases c2 : k = j
    · rw [if_pos c2, if_pos (by omega), c2]
    · rw [if_neg c2]
      by_cases c3 : j < k ∨ ps.length - 1 - j < k
      · rw [if_pos c3, if_pos (by omega)]
      · rw [if_neg c3, if_neg (by omega)]

theorem cell_set2 {w : World} {g o o' : Nat} {x y : Value} (h : (w.cell? ⟨g, o, none⟩).isSome) : ((w.setCell ⟨g, o, none⟩ x).cell? ⟨g, o', none⟩) = if o = o' then some x else w.cell? ⟨g, o', none⟩ := by
  by_cases c : o = o'
  · subst c
    rw [if_pos rfl, cell_store]
    cases hh : w.cell? ⟨g, o, none⟩ with
    | none => rw [hh] at h; cases h
    | some _ => rfl
  · rw [if_neg c, World.cell?_setCell_other _ _ _ _ (by intro e; cases e; exact c rfl)]
theorem PtsAt.set {w : World} {g off : Nat} {ps : List (Nat × Nat)} (h : PtsAt w g off ps) {i : Nat} (hi : i < ps.length) (x y : Nat) :
    PtsAt ((w.setCell ⟨g, off + i * 2, none⟩ (.float .f64 x)).setCell ⟨g, off + i * 2 + 1, none⟩ (.float .f64 y)) g off (ps.set i (x, y)) := by
  obtain ⟨a0, a1⟩ := h i hi
  have s0 : ∀ o', (w.setCell ⟨g, off + i * 2, none⟩ (.float .f64 x)).cell? ⟨g, o', none⟩ = if off + i * 2 = o' then some (.float .f64 x) else w.cell? ⟨g, o', none⟩ := fun o' => cell_set2 (y := .bool true) (by rw [a0]; rfl)
  have s1 : ∀ o', ((w.setCell ⟨g, off + i * 2, none⟩ (.float .f64 x)).setCell ⟨g, off + i * 2 + 1, none⟩ (.float .f64 y)).cell? ⟨g, o', none⟩ = if off + i * 2 + 1 = o' then some (.float .f64 y) else if off + i * 2 = o' then some (.float .f64 x) else w.cell? ⟨g, o', none⟩ := fun o' => by
    rw [cell_set2 (y := .bool true) (by rw [s0, if_neg (by omega), a1]; rfl), s0]
  intro j hj
  rw [List.length_set] at hj
  rw [s1, s1, List.getElem_set]
  obtain ⟨b0, b1⟩ := h j hj
  by_cases c : i = j
  · subst c
    rw [if_pos rfl, if_neg (by omega), if_pos rfl, if_pos rfl]
    exact ⟨rfl, rfl⟩
  · rw [if_neg c, if_neg (by omega), if_neg (by omega), if_neg (by omega), if_neg (by omega)]
    exact ⟨b0, b1⟩

theorem kp_trans' {a w u : World} {g : Nat} (h : Kp a w) (k : Below g w u) (hg : a.heap.size ≤ g) : Kp a u := Below.trans h (Below.mono k hg)
/-- what Reverse leaves -/
def RevPost (w : World) (g off : Nat) (ps : List (Nat × Nat)) (e : Ending) (w' : World) : Prop := e = .returned (.tuple #[]) ∧ Below g w w' ∧ w.heap.size ≤ w'.heap.size ∧ PtsAt w' g off ps.reverse ∧ (∀ j, w'.frozen? ⟨g, j, none⟩ = false)

theorem PtsNew.wide {w w0 w' : World} {e : TypeId} {v : Value} {ps : List (Nat × Nat)} (h : PtsNew w w' e v ps) (k : w0.heap.size ≤ w.heap.size) : PtsNew w0 w' e v ps := by
  obtain ⟨hl, h⟩ := h
  refine ⟨hl, ?_⟩
  rcases h with h | ⟨g, cap, cur, hv, hg, h⟩
  · exact .inl h
  · exact .inr ⟨g, cap, cur, hv, Nat.le_trans k hg, h⟩

theorem PtsNew.in {w w' : World} {e : TypeId} {v : Value} {ps : List (Nat × Nat)} (h : PtsNew w w' e v ps) : ∃ a cap, v = .slice a ps.length cap ∧ PtsIn w' a ps := by
  by_cases h0 : 0 < ps.length
  · obtain ⟨g, cap, hv, _, hg, _, _, hp⟩ := h.form h0
    exact ⟨_, _, hv, .inr ⟨g, 0, rfl, hg, hp⟩⟩
  · obtain ⟨a, cap, hv⟩ := h.empty
    exact ⟨a, cap, hv, .inl (List.length_eq_zero_iff.1 (by omega))⟩

end Go.Proofs.YtohidpmkoehmcaaGreatDoor

set_option linter.all false
namespace Go.Proofs.YtohidpmkoehmcaaGreatDoor
open PubFl Go.RowKit

attribute [local go_sem] cell_ext frozen_ext ext_setCell cell_store size_ext_eq lt_p0 lt_p1 lt_p2 lt_p3 lt_p4 lt_p5 lt_p6 lt_p7 lt_p8 lt_p9 lt_p10 lt_p11 lt_p12 lt_p13 lt_p14 lt_p15 lt_p16 lt_p17 lt_p18 lt_p19 lt_p20 lt_p21 lt_p22 lt_p23 lt_p24 lt_p25 lt_p26 lt_p27 lt_p28 lt_p29 lt_p30 lt_p31 lt_p32 lt_q1 lt_q2 lt_q3 lt_q4 lt_q5 lt_q6 lt_q7 lt_q8 lt_q9 lt_q10 lt_q11 lt_q12 lt_q13 lt_q14 lt_q15 lt_q16 lt_q17 lt_q18 lt_q19 lt_q20 lt_q21 lt_q22 lt_q23 lt_q24 lt_q25 lt_q26 lt_q27 lt_q28 lt_q29 lt_q30 lt_q31 lt_q32 run_fop run_store_float
attribute [local go_sem high] cmp_eql cmp_neq cmp_lss cmp_leq cmp_gtr cmp_geq

/-- the last point is the first one -/
def meetsB (ps : List (Nat × Nat)) : Bool := eqF (ps.getD 0 (0, 0)).1 (ps.getD (ps.length - 1) (0, 0)).1 && eqF (ps.getD 0 (0, 0)).2 (ps.getD (ps.length - 1) (0, 0)).2
def closedB (ps : List (Nat × Nat)) : Bool := decide (4 ≤ ps.length) && meetsB ps

end Go.Proofs.YtohidpmkoehmcaaGreatDoor

set_option linter.all false
namespace Go.Proofs.YtohidpmkoehmcaaGreatDoor
open PubFl Go.RowKit

attribute [local go_sem] cell_ext frozen_ext ext_setCell cell_store size_ext_eq lt_p0 lt_p1 lt_p2 lt_p3 lt_p4 lt_p5 lt_p6 lt_p7 lt_p8 lt_p9 lt_p10 lt_p11 lt_p12 lt_p13 lt_p14 lt_p15 lt_p16 lt_p17 lt_p18 lt_p19 lt_p20 lt_p21 lt_p22 lt_p23 lt_p24 lt_p25 lt_p26 lt_p27 lt_p28 lt_p29 lt_p30 lt_p31 lt_p32 lt_q1 lt_q2 lt_q3 lt_q4 lt_q5 lt_q6 lt_q7 lt_q8 lt_q9 lt_q10 lt_q11 lt_q12 lt_q13 lt_q14 lt_q15 lt_q16 lt_q17 lt_q18 lt_q19 lt_q20 lt_q21 lt_q22 lt_q23 lt_q24 lt_q25 lt_q26 lt_q27 lt_q28 lt_q29 lt_q30 lt_q31 lt_q32 run_fop run_store_float
attribute [local go_sem high] cmp_eql cmp_neq cmp_lss cmp_leq cmp_gtr cmp_geq

theorem wrap_in (n : Int) (h0 : -9223372036854775808 ≤ n) (h1 : n ≤ 9223372036854775807) : IntKind.i64.wrap n = n := by
  rw [← wrap64_i64]
  unfold RowKit.wrap64
  omega
theorem ptsAt_one {w : World} {b x y : Nat} (c0 : w.cell? ⟨b, 0, none⟩ = some (.float .f64 x)) (c1 : w.cell? ⟨b, 1, none⟩ = some (.float .f64 y)) : PtsAt w b 0 [(x, y)] := by
  intro i hi
  have : i = 0 := by simp at hi; exact hi
  subst this
  exact ⟨c0, c1⟩
theorem sq5_in {w : World} {v : Value} {w' : World} {e : TypeId} (h : PtsNew w w' e v sq5) : ∃ g cap, v = .slice (some ⟨g, 0, none⟩) 5 cap ∧ PtsIn w' (some ⟨g, 0, none⟩) sq5 := by
  obtain ⟨g, cap', hv, _, hg2, _, _, hpt⟩ := h.form (by decide)
  exact ⟨g, cap', hv, .inr ⟨g, 0, rfl, hg2, hpt⟩⟩
theorem sq5r_in {w : World} {v : Value} {w' : World} {e : TypeId} (h : PtsNew w w' e v sq5.reverse) : ∃ g cap, v = .slice (some ⟨g, 0, none⟩) 5 cap ∧ PtsIn w' (some ⟨g, 0, none⟩) sq5.reverse := by
  obtain ⟨g, cap', hv, _, hg2, _, _, hpt⟩ := h.form (by decide)
  exact ⟨g, cap', hv, .inr ⟨g, 0, rfl, hg2, hpt⟩⟩
theorem sq5_closed : closedB sq5 = true := by kernel_rfl
theorem sq5_rev : closedB sq5.reverse = true := by kernel_rfl
end Go.Proofs.YtohidpmkoehmcaaGreatDoor

set_option linter.all false
namespace Go.Proofs.YtohidpmkoehmcaaGreatDoor
open PubFl Go.RowKit

attribute [local go_sem] cell_ext frozen_ext ext_setCell cell_store size_ext_eq lt_p0 lt_p1 lt_p2 lt_p3 lt_p4 lt_p5 lt_p6 lt_p7 lt_p8 lt_p9 lt_p10 lt_p11 lt_p12 lt_p13 lt_p14 lt_p15 lt_p16 lt_p17 lt_p18 lt_p19 lt_p20 lt_p21 lt_p22 lt_p23 lt_p24 lt_p25 lt_p26 lt_p27 lt_p28 lt_p29 lt_p30 lt_p31 lt_p32 lt_q1 lt_q2 lt_q3 lt_q4 lt_q5 lt_q6 lt_q7 lt_q8 lt_q9 lt_q10 lt_q11 lt_q12 lt_q13 lt_q14 lt_q15 lt_q16 lt_q17 lt_q18 lt_q19 lt_q20 lt_q21 lt_q22 lt_q23 lt_q24 lt_q25 lt_q26 lt_q27 lt_q28 lt_q29 lt_q30 lt_q31 lt_q32 run_fop run_store_float
attribute [local go_sem high] cmp_eql cmp_neq cmp_lss cmp_leq cmp_gtr cmp_geq

def ringB (ps : List (Nat × Nat)) : Bool := decide (4 ≤ ps.length) && arePtsB ps 100 && meetsB ps

set_option maxRecDepth 20000 in
set_option maxHeartbeats 1000000 in
theorem isRing_c (a : Option Addr) (cap : Nat) (ps : List (Nat × Nat)) (hn : ps.length ≤ 2147483647) (w : World) (hs : PtsIn w a ps) (hbits : Bits ps) :
    Calls Tryz.prog 20 #[.slice a ps.length cap] w (Ret w (.bool (ringB ps))) := by
  by_cases h4 : 4 ≤ ps.length
  · obtain ⟨b, off, rfl, hb, hpt⟩ := hs.cells (by omega)
    obtain ⟨l, hl⟩ : ∃ l : Nat, ps.length = l + 1 := ⟨ps.length - 1, by omega⟩
    obtain ⟨a0, a1⟩ := hpt 0 (by omega)
    obtain ⟨b0, b1⟩ := hpt l (by omega)
    have hm : meetsB ps = (eqF (ps[0]'(by omega)).1 (ps[l]'(by omega)).1 && eqF (ps[0]'(by omega)).2 (ps[l]'(by omega)).2) := by
      unfold meetsB
      rw [getD_in _ _ (by omega), getD_in _ _ (by omega)]
      simp only [hl, Nat.add_sub_cancel]
    have hr : ringB ps = (arePtsB ps 100 && meetsB ps) := by unfold ringB; rw [decide_eq_true h4]; rfl
    obtain ⟨⟨x0, y0⟩, hq0⟩ : ∃ q, ps[0]'(by omega) = q := ⟨_, rfl⟩
    obtain ⟨⟨x1, y1⟩, hq1⟩ : ∃ q, ps[l]'(by omega) = q := ⟨_, rfl⟩
    rw [hq0] at a0 a1 hm
    rw [hq1] at b0 b1 hm
    simp only [Nat.zero_mul, Nat.add_zero] at a0 a1
    have hap := Lib.hid (fun w' hk => arePoints_c (some ⟨b, off, none⟩) cap ps 100 hn w' (show PtsIn w' _ ps from .inr ⟨b, off, rfl, Nat.lt_of_lt_of_le hb (Kp.size hk), hpt.kp hb hk⟩) hbits)
    have h4' : ((4 : Int) ≤ (ps.length : Int)) = True := eq_true (by omega)
    have hsum : ((ps.length : Int) - 1) = (l : Int) := by omega
    have hw2 : IntKind.i64.wrap (l : Int) = (l : Int) := wrap_in _ (by omega) (by omega)
    have hl0 : (0 : Int) ≤ (l : Int) := by omega
    have hll : (l : Int) < (ps.length : Int) := by omega
    have hl1 : (0 : Int) < (ps.length : Int) := by omega
    have heq : ∀ w, _ := fun w => run_eql_pt x0 y0 x1 y1 w
    rw [← hm] at heq
    rw [hr]
    clear hq0 hq1 hpt hs hr hm hl h4 hbits hn
    generalize meetsB ps = mb at *
    generalize arePtsB ps 100 = pb at *
    cases pb
    · go_enter Tryz.func20, Tryz.ntmps20
      go_wp2_with fail
      first | (with_reducible refine wp_region_ext_lit2 ?_ ?_ ?_) | refine wp_region_ext_lit ?_ ?_ ?_
      kernel_rfl
      kernel_rfl
      repeat (go_big_quiet_step (first | (go_at_call 31; exact Ret.quiet (hap.out _ (by repeat (first | (with_reducible exact Kp.refl _) | (with_reducible assumption) | (with_reducible apply Kp.ext) | (with_reducible apply Kp.alloc) | (with_reducible apply Kp.drew) | (with_reducible apply Kp.drewN) | (with_reducible refine Kp.setCell ?_ (by first | (dsimp only; omega) | (simp; omega) | (simp; done) | (simp [size_ext_eq]; omega)) _)))))))
      refine wpQuiet_nil ?_
      rintro _ ⟨u, rfl⟩
      go_wp2_with fail
      go_ret
      exact Ret.mk rfl (by repeat (first | (with_reducible exact Kp.refl _) | (with_reducible assumption) | (with_reducible apply Kp.ext) | (with_reducible apply Kp.alloc) | (with_reducible apply Kp.drew) | (with_reducible apply Kp.drewN) | (with_reducible refine Kp.setCell ?_ (by first | (dsimp only; omega) | (simp; omega) | (simp; done) | (simp [size_ext_eq]; omega)) _)))
    · go_enter Tryz.func20, Tryz.ntmps20
      go_wp2_with fail
      first | (with_reducible refine wp_region_ext_lit2 ?_ ?_ ?_) | refine wp_region_ext_lit ?_ ?_ ?_
      kernel_rfl
      kernel_rfl
      repeat (go_big_quiet_step (first | (go_at_call 31; exact Ret.quiet (hap.out _ (by repeat (first | (with_reducible exact Kp.refl _) | (with_reducible assumption) | (with_reducible apply Kp.ext) | (with_reducible apply Kp.alloc) | (with_reducible apply Kp.drew) | (with_reducible apply Kp.drewN) | (with_reducible refine Kp.setCell ?_ (by first | (dsimp only; omega) | (simp; omega) | (simp; done) | (simp [size_ext_eq]; omega)) _)))))))
      refine wpQuiet_nil ?_
      rintro _ ⟨u, rfl⟩
      go_wp2_with fail
      go_ret
      exact Ret.mk rfl (by repeat (first | (with_reducible exact Kp.refl _) | (with_reducible assumption) | (with_reducible apply Kp.ext) | (with_reducible apply Kp.alloc) | (with_reducible apply Kp.drew) | (with_reducible apply Kp.drewN) | (with_reducible refine Kp.setCell ?_ (by first | (dsimp only; omega) | (simp; omega) | (simp; done) | (simp [size_ext_eq]; omega)) _)))
  · have hr : ringB ps = false := by unfold ringB; rw [decide_eq_false h4]; rfl
    rw [hr]
    have h4' : ((4 : Int) ≤ (ps.length : Int)) = False := eq_false (by omega)
    clear h4 hr
    go_enter Tryz.func20, Tryz.ntmps20
    go_wp2_with fail
    first | (with_reducible refine wp_region_ext_lit2 ?_ ?_ ?_) | refine wp_region_ext_lit ?_ ?_ ?_
    kernel_rfl
    kernel_rfl
    repeat (go_big_quiet_step (fail))
    refine wpQuiet_nil ?_
    rintro _ ⟨u, rfl⟩
    go_wp2_with fail
    go_ret
    exact Ret.mk rfl (by repeat (first | (with_reducible exact Kp.refl _) | (with_reducible assumption) | (with_reducible apply Kp.ext) | (with_reducible apply Kp.alloc) | (with_reducible apply Kp.drew) | (with_reducible apply Kp.drewN) | (with_reducible refine Kp.setCell ?_ (by first | (dsimp only; omega) | (simp; omega) | (simp; done) | (simp [size_ext_eq]; omega)) _)))
end Go.Proofs.YtohidpmkoehmcaaGreatDoor
