/-
  Lists the other way round, and lists that are the same: spec.SamePoints, LineString.Reverse, impl.Reversed.
-/
import Derived.Test.YtobdohhabgnjiaaGreatDoorLine
import Derived.Test.YtobdohhabgnjiaaGreatDoorWt
import Derived.Test.YtobdohhabgnjiaaGreatDoorWm
import Derived.BigRegion
set_option linter.all false
namespace Go.Proofs.YtobdohhabgnjiaaGreatDoor
open PubFl Go.RowKit

attribute [local go_sem] cell_ext frozen_ext ext_setCell cell_store size_ext_eq lt_p0 lt_p1 lt_p2 lt_p3 lt_p4 lt_p5 lt_p6 lt_p7 lt_p8 lt_p9 lt_p10 lt_p11 lt_p12 lt_p13 lt_p14 lt_p15 lt_p16 lt_p17 lt_p18 lt_p19 lt_p20 lt_p21 lt_p22 lt_p23 lt_p24 lt_p25 lt_p26 lt_p27 lt_p28 lt_p29 lt_p30 lt_p31 lt_p32 lt_q1 lt_q2 lt_q3 lt_q4 lt_q5 lt_q6 lt_q7 lt_q8 lt_q9 lt_q10 lt_q11 lt_q12 lt_q13 lt_q14 lt_q15 lt_q16 lt_q17 lt_q18 lt_q19 lt_q20 lt_q21 lt_q22 lt_q23 lt_q24 lt_q25 lt_q26 lt_q27 lt_q28 lt_q29 lt_q30 lt_q31 lt_q32 run_fop run_store_float
attribute [local go_sem high] cmp_eql cmp_neq cmp_lss cmp_leq cmp_gtr cmp_geq
attribute [local go_sem] x_bits

theorem getD_in (ps : List (Nat × Nat)) (j : Nat) (h : j < ps.length) : ps.getD j (0, 0) = ps[j] := by simp [List.getD, h]
theorem sameBits_c (a : Nat) (w : World) : Calls Tryz.prog 44 #[.float .f64 a, .float .f64 a] w (Ret w (.bool true)) := by
  go_enter Tryz.func44, Tryz.ntmps44
  go_wp2_with fail
  go_ret
  exact Ret.mk rfl (by repeat (first | (with_reducible exact Kp.refl _) | (with_reducible assumption) | (with_reducible apply Kp.ext) | (with_reducible apply Kp.alloc) | (with_reducible apply Kp.drew) | (with_reducible apply Kp.drewN) | (with_reducible refine Kp.setCell ?_ (by first | (dsimp only; omega) | (simp; omega) | (simp; done) | (simp [size_ext_eq]; omega)) _)))

theorem PtsIn.kp {w w' : World} {a : Option Addr} {ps : List (Nat × Nat)} (hs : PtsIn w a ps) (hk : Kp w w') : PtsIn w' a ps := by
  rcases hs with h | ⟨b, off, rfl, hb, hpt⟩
  · exact .inl h
  · exact .inr ⟨b, off, rfl, Nat.lt_of_lt_of_le hb hk.size, hpt.kp hb hk⟩
theorem PtsIn.cells {w : World} {a : Option Addr} {ps : List (Nat × Nat)} (h : PtsIn w a ps) (hp : 0 < ps.length) : ∃ b off, a = some ⟨b, off, none⟩ ∧ b < w.heap.size ∧ PtsAt w b off ps := by
  rcases h with h | h
  · subst h; simp at hp
  · exact h

set_option maxHeartbeats 1000000 in
theorem samePts_c (a a' : Option Addr) (cap cap' : Nat) (ps : List (Nat × Nat)) (hn : ps.length ≤ 2147483647) (w : World) (hs : PtsIn w a ps) (hs' : PtsIn w a' ps) :
    Calls Tryz.prog 28 #[.slice a ps.length cap, .slice a' ps.length cap'] w (Ret w (.bool true)) := by
  go_enter Tryz.func28, Tryz.ntmps28
  go_wp2_with fail
  go_loopw [13] (fun i wr => ∃ k : Nat, k ≤ ps.length ∧ i = .int .i64 k ∧ Kp w wr) (fun i _ => ps.length - (intOf i).toNat)
  case atStart => exact ⟨0, Nat.zero_le _, rfl, (by repeat (first | (with_reducible exact Kp.refl _) | (with_reducible assumption) | (with_reducible apply Kp.ext) | (with_reducible apply Kp.alloc) | (with_reducible apply Kp.drew) | (with_reducible apply Kp.drewN) | (with_reducible refine Kp.setCell ?_ (by first | (dsimp only; omega) | (simp; omega) | (simp; done) | (simp [size_ext_eq]; omega)) _)))⟩
  case round =>
    obtain ⟨k, hkn, rfl, hkp⟩ := hrel
    by_cases hlt : k < ps.length
    · obtain ⟨b, off, rfl, hb, hpt⟩ := hs.cells (by omega)
      obtain ⟨b', off', rfl, hb', hpt'⟩ := hs'.cells (by omega)
      obtain ⟨e0, e1⟩ := hpt.kp hb hkp k hlt
      obtain ⟨f0, f1⟩ := hpt'.kp hb' hkp k hlt
      obtain ⟨⟨px, py⟩, hq⟩ : ∃ q, ps[k]'hlt = q := ⟨_, rfl⟩
      rw [hq] at e0 e1 f0 f1
      clear hq
      have hbk : b < wr.heap.size := Nat.lt_of_lt_of_le hb hkp.size
      have hbk' : b' < wr.heap.size := Nat.lt_of_lt_of_le hb' hkp.size
      go_wp2_with fail
      first | (with_reducible refine wp_region_ext_lit2 ?_ ?_ ?_) | refine wp_region_ext_lit ?_ ?_ ?_
      kernel_rfl
      kernel_rfl
      repeat (go_big_quiet_step ((go_at_call 44; exact Ret.quiet (sameBits_c _ _))))
      refine wpQuiet_nil ?_
      rintro _ ⟨u, rfl⟩
      go_wp2_with fail
      go_roundw
      case rel => exact ⟨k + 1, by omega, by go_num, (by repeat (first | (with_reducible exact Kp.refl _) | (with_reducible assumption) | (with_reducible apply Kp.ext) | (with_reducible apply Kp.alloc) | (with_reducible apply Kp.drew) | (with_reducible apply Kp.drewN) | (with_reducible refine Kp.setCell ?_ (by first | (dsimp only; omega) | (simp; omega) | (simp; done) | (simp [size_ext_eq]; omega)) _)))⟩
      case measure => simp [intOf]; omega
    · obtain rfl : k = ps.length := by omega
      go_wp2_with fail
      go_ret
      exact Ret.mk rfl (by repeat (first | (with_reducible exact Kp.refl _) | (with_reducible assumption) | (with_reducible apply Kp.ext) | (with_reducible apply Kp.alloc) | (with_reducible apply Kp.drew) | (with_reducible apply Kp.drewN) | (with_reducible refine Kp.setCell ?_ (by first | (dsimp only; omega) | (simp; omega) | (simp; done) | (simp [size_ext_eq]; omega)) _)))

/-- k points from either end have changed places -/
def mixed (ps : List (Nat × Nat)) (k : Nat) : List (Nat × Nat) := (List.range ps.length).map fun j => if j < k ∨ ps.length - 1 - j < k then ps.getD (ps.length - 1 - j) (0, 0) else ps.getD j (0, 0)
theorem cell_set2 {w : World} {g o o' : Nat} {x y : Value} (h : (w.cell? ⟨g, o, none⟩).isSome) : ((w.setCell ⟨g, o, none⟩ x).cell? ⟨g, o', none⟩) = if o = o' then some x else w.cell? ⟨g, o', none⟩ := by
  by_cases c : o = o'
  · subst c
    rw [if_pos rfl, cell_store]
    cases hh : w.cell? ⟨g, o, none⟩ with
    | none => rw [hh] at h; cases h
    | some _ => rfl
  · rw [if_neg c, World.cell?_setCell_other _ _ _ _ (by intro e; cases e; exact c rfl)]
theorem PtsAt.set {w : World} {g off : Nat} {ps : List (Nat × Nat)} (h : PtsAt w g off ps) {i : Nat} (hi : i < ps.length) (x y : Nat) :
    PtsAt ((w.setCell ⟨g, off + i * 2, none⟩ (.float .f64 x)).setCell ⟨g, off + i * 2 + 1, none⟩ (.float .f64 y)) g off (ps.set i (x, y)) := by
  obtain ⟨a0, a1⟩ := h i hi
  have s0 : ∀ o', (w.setCell ⟨g, off + i * 2, none⟩ (.float .f64 x)).cell? ⟨g, o', none⟩ = if off + i * 2 = o' then some (.float .f64 x) else w.cell? ⟨g, o', none⟩ := fun o' => cell_set2 (y := .bool true) (by rw [a0]; rfl)
  have s1 : ∀ o', ((w.setCell ⟨g, off + i * 2, none⟩ (.float .f64 x)).setCell ⟨g, off + i * 2 + 1, none⟩ (.float .f64 y)).cell? ⟨g, o', none⟩ = if off + i * 2 + 1 = o' then some (.float .f64 y) else if off + i * 2 = o' then some (.float .f64 x) else w.cell? ⟨g, o', none⟩ := fun o' => by
    rw [cell_set2 (y := .bool true) (by rw [s0, if_neg (by omega), a1]; rfl), s0]
  intro j hj
  rw [List.length_set] at hj
  rw [s1, s1, List.getElem_set]
  obtain ⟨b0, b1⟩ := h j hj
  by_cases c : i = j
  · subst c
    rw [if_pos rfl, if_neg (by omega), if_pos rfl, if_pos rfl]
    exact ⟨rfl, rfl⟩
  · rw [if_neg c, if_neg (by omega), if_neg (by omega), if_neg (by omega), if_neg (by omega)]
    exact ⟨b0, b1⟩

theorem PtsNew.in {w w' : World} {e : TypeId} {v : Value} {ps : List (Nat × Nat)} (h : PtsNew w w' e v ps) : ∃ a cap, v = .slice a ps.length cap ∧ PtsIn w' a ps := by
  by_cases h0 : 0 < ps.length
  · obtain ⟨g, cap, hv, _, hg, _, _, hp⟩ := h.form h0
    exact ⟨_, _, hv, .inr ⟨g, 0, rfl, hg, hp⟩⟩
  · obtain ⟨a, cap, hv⟩ := h.empty
    exact ⟨a, cap, hv, .inl (List.length_eq_zero_iff.1 (by omega))⟩

end Go.Proofs.YtobdohhabgnjiaaGreatDoor
