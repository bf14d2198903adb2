/-
  planar.PolygonContains; spec.IsPolygon, spec.OnHole, spec.Holed.
-/
import Derived.Test.YtohidpmkoehmcaaGreatDoorMG8
import Derived.Test.YtohidpmkoehmcaaGreatDoorHas3
import Derived.Test.YtohidpmkoehmcaaGreatDoorShape
import Derived.Test.YtohidpmkoehmcaaGreatDoorMG0
import Derived.Deep.Slices
set_option linter.all false
namespace Go.Proofs.YtohidpmkoehmcaaGreatDoor
open PubFl Go.RowKit

attribute [local go_sem] cell_ext frozen_ext ext_setCell cell_store size_ext_eq lt_p0 lt_p1 lt_p2 lt_p3 lt_p4 lt_p5 lt_p6 lt_p7 lt_p8 lt_p9 lt_p10 lt_p11 lt_p12 lt_p13 lt_p14 lt_p15 lt_p16 lt_p17 lt_p18 lt_p19 lt_p20 lt_p21 lt_p22 lt_p23 lt_p24 lt_p25 lt_p26 lt_p27 lt_p28 lt_p29 lt_p30 lt_p31 lt_p32 lt_q1 lt_q2 lt_q3 lt_q4 lt_q5 lt_q6 lt_q7 lt_q8 lt_q9 lt_q10 lt_q11 lt_q12 lt_q13 lt_q14 lt_q15 lt_q16 lt_q17 lt_q18 lt_q19 lt_q20 lt_q21 lt_q22 lt_q23 lt_q24 lt_q25 lt_q26 lt_q27 lt_q28 lt_q29 lt_q30 lt_q31 lt_q32 run_fop run_store_float
attribute [local go_sem high] cmp_eql cmp_neq cmp_lss cmp_leq cmp_gtr cmp_geq

/-- a polygon in memory -/
def PolyAt (w : World) (v : Value) (lss : List (List (Nat × Nat))) : Prop :=
  ∃ g cap, v = .slice (some ⟨g, 0, none⟩) lss.length cap ∧ g < w.heap.size ∧ ∀ (i : Nat) (h : i < lss.length), ∃ gi ci, w.cell? ⟨g, i, none⟩ = some (.slice (some ⟨gi, 0, none⟩) (lss[i]'h).length ci) ∧ gi < w.heap.size ∧ PtsAt w gi 0 (lss[i]'h)
theorem PolyAt.kp {w w' : World} {v : Value} {lss : List (List (Nat × Nat))} (h : PolyAt w v lss) (k : Kp w w') : PolyAt w' v lss := by
  obtain ⟨g, cap, hv, hg, h⟩ := h
  refine ⟨g, cap, hv, Nat.lt_of_lt_of_le hg k.size, fun i hi => ?_⟩
  obtain ⟨gi, ci, hc, hgi, hp⟩ := h i hi
  exact ⟨gi, ci, Kp.cell k hc hg, Nat.lt_of_lt_of_le hgi k.size, hp.kp hgi k⟩
theorem PolyNew.at {w w' : World} {v : Value} {lss : List (List (Nat × Nat))} (h : PolyNew w w' v lss) (h0 : 0 < lss.length) (hp : ∀ (i : Nat) (h : i < lss.length), 0 < (lss[i]'h).length) : PolyAt w' v lss := by
  obtain ⟨vs, hown, hl, hr⟩ := h
  have hown' := hown
  rcases hown.2 with ⟨_, hz⟩ | ⟨R, cap, cur, rfl, _, hR, _⟩
  · omega
  · refine ⟨R, cap, rfl, ?_, fun i hi => ?_⟩
    · rcases Nat.lt_or_ge R w'.heap.size with k | k
      · exact k
      · rw [Array.getElem?_eq_none k] at hR; cases hR
    · obtain ⟨x, hx, hn⟩ := hr i hi hi
      obtain ⟨g, c, hv, _, hg, _, _, hpt⟩ := PtsNew.form hn (hp i hi)
      refine ⟨g, c, ?_, hg, hpt⟩
      have := hown'.cellAt i (by omega)
      rw [this, hx, hv]

/-- a ring of whole numbers -/
structure RingP (ps : List (Nat × Nat)) (P : Nat → Int × Int) : Prop where
  lo : 4 ≤ ps.length
  hi : ps.length ≤ 100
  pts : IntW ps P
  cl : P (ps.length - 1) = P 0
def RingsP (lss : List (List (Nat × Nat))) (Ps : Nat → Nat → Int × Int) : Prop := ∀ (i : Nat) (h : i < lss.length), RingP (lss[i]'h) (Ps i)
/-- one of its rings has a point -/
def hasAt (lss : List (List (Nat × Nat))) (Ps : Nat → Nat → Int × Int) (p : Int × Int) (i : Nat) : Bool := hasI (Ps i) ((lss.getD i []).length - 1) p
/-- a polygon has a point -/
def polyI (lss : List (List (Nat × Nat))) (Ps : Nat → Nat → Int × Int) (p : Int × Int) : Bool := hasAt lss Ps p 0 && (List.range (lss.length - 1)).all fun i => !hasAt lss Ps p (i + 1)
theorem getD_l (lss : List (List (Nat × Nat))) (i : Nat) (h : i < lss.length) : lss.getD i [] = lss[i]'h := by
  rw [List.getD_eq_getElem?_getD, List.getElem?_eq_getElem h]; rfl
def FreeTo (f : Nat → Bool) (k : Nat) : Prop := ∀ i, i < k → f (i + 1) = false
theorem FreeTo.succ {f : Nat → Bool} {k : Nat} (h : FreeTo f k) (hk : f (k + 1) = false) : FreeTo f (k + 1) := fun i hi => by
  by_cases c : i = k
  · subst c; exact hk
  · exact h i (by omega)
theorem free_all {f : Nat → Bool} {n : Nat} (h : FreeTo f n) : ((List.range n).all fun i => !f (i + 1)) = true := by
  rw [List.all_eq_true]; intro i hi; rw [h i (List.mem_range.1 hi)]; rfl
theorem free_not {f : Nat → Bool} {n k : Nat} (hk : k < n) (h : f (k + 1) = true) : ((List.range n).all fun i => !f (i + 1)) = false :=
  List.all_eq_false.2 ⟨k, List.mem_range.2 hk, by rw [h]; decide⟩
theorem free_any {f : Nat → Bool} {n : Nat} (h : FreeTo f n) : ((List.range n).any fun i => f (i + 1)) = false := by
  rw [List.any_eq_false]; intro i hi; rw [h i (List.mem_range.1 hi)]; decide
theorem free_some {f : Nat → Bool} {n k : Nat} (hk : k < n) (h : f (k + 1) = true) : ((List.range n).any fun i => f (i + 1)) = true :=
  List.any_eq_true.2 ⟨k, List.mem_range.2 hk, h⟩

theorem fits_lists {s : Sh} (h : fitsB s = true) : s.lists.length ≤ 2147483647 ∧ (∀ (i : Nat) (h : i < s.lists.length), (s.lists[i]'h).length ≤ 2147483647) ∧ s.parts.length ≤ 2147483647 := by
  unfold fitsB fitsLB at h
  simp only [Bool.and_eq_true, decide_eq_true_eq, List.all_eq_true] at h
  exact ⟨h.1.1, fun i hi => h.1.2 _ (List.getElem_mem hi), h.2⟩

def SimpleAt (ls : List (List (Nat × Nat))) (rs : Nat → Bool) : Prop := ∀ (i : Nat) (h : i < ls.length), (∀ (a : Option Addr) (cap : Nat) (w : World), PtsIn w a (ls[i]'h) → Calls Tryz.prog 11 #[.slice a (ls[i]'h).length cap] w (Ret w (.bool (rs i)))) ∧
  (rs i = true → ∃ P : Nat → Int × Int, RingP (ls[i]'h) P)
def AllTo (f : Nat → Bool) (k : Nat) : Prop := ∀ i, i < k → f i = true
theorem AllTo.succ {f : Nat → Bool} {k : Nat} (h : AllTo f k) (hk : f k = true) : AllTo f (k + 1) := fun i hi => by
  by_cases c : i = k
  · subst c; exact hk
  · exact h i (by omega)
theorem all_yes {f : Nat → Bool} {n : Nat} (h : AllTo f n) : ((List.range n).all f) = true := by
  rw [List.all_eq_true]; intro i hi; exact h i (List.mem_range.1 hi)
theorem all_no {f : Nat → Bool} {n k : Nat} (hk : k < n) (h : f k = false) : ((List.range n).all f) = false := List.all_eq_false.2 ⟨k, List.mem_range.2 hk, by rw [h]; decide⟩
theorem simple_all (ls : List (List (Nat × Nat))) (hf : ∀ (i : Nat) (h : i < ls.length), (ls[i]'h).length ≤ 2147483647 ∧ Bits (ls[i]'h)) : ∃ rs, SimpleAt ls rs := by
  have : ∀ i, i < ls.length → ∃ r : Bool, (∀ (a : Option Addr) (cap : Nat) (w : World), PtsIn w a (ls.getD i []) → Calls Tryz.prog 11 #[.slice a (ls.getD i []).length cap] w (Ret w (.bool r))) ∧ (r = true → ∃ P : Nat → Int × Int, RingP (ls.getD i []) P) := fun i hi => by
    rw [getD_l _ _ hi]
    obtain ⟨r, h1, h2⟩ := simple_ex _ (hf i hi).1 (hf i hi).2
    refine ⟨r, h1, fun h => ?_⟩
    obtain ⟨a, b, P, c, d⟩ := h2 h
    exact ⟨P, a, b, c, d⟩
  obtain ⟨rs, h⟩ := Go.Deep.choose_lt this
  exact ⟨rs, fun i hi => by have := h i hi; rwa [getD_l _ _ hi] at this⟩

/-- a polygon as the law asks for it -/
def isPolyB (s : Sh) (rs : Nat → Bool) : Bool := decide (s.kind = 3) && isShB s && decide (s.lists.length ≠ 0) && decide (s.lists.length ≤ 6) && (List.range s.lists.length).all rs
set_option maxRecDepth 20000 in
set_option maxHeartbeats 2000000 in
theorem isPolygon_c (s : Sh) (rs : Nat → Bool) (hrs : SimpleAt s.lists rs) (lv pv : Value) (w : World) (hs : ShIn 4 w lv pv s) : Calls Tryz.prog 5 #[.agg #[.int .i64 s.kind, lv, pv]] w (Ret w (.bool (isPolyB s rs))) := by
  have hsh := fun w' (hk : Kp w w') => isShape_c s lv pv w' (hs.kp hk)
  obtain ⟨hl, a2, c2, rfl, _, _⟩ := hs
  obtain ⟨a1, c1, rfl, hn, hget⟩ := hl.get
  unfold big at hn
  by_cases h3 : s.kind = 3
  · have e0 : isPolyB s rs = (isShB s && decide (s.lists.length ≠ 0) && decide (s.lists.length ≤ 6) && (List.range s.lists.length).all rs) := by unfold isPolyB; rw [decide_eq_true h3, Bool.true_and]
    rw [e0]
    clear e0
    rw [h3] at hsh ⊢
    clear h3
    cases hS : isShB s
    · rw [hS] at hsh
      have Hsh := Lib.hid hsh
      clear hsh hS hget hrs hl
      go_enter Tryz.func5, Tryz.ntmps5
      go_wp2_with (go_at_call 10; (first | (with_reducible refine (Ret.at_ext (Hsh.out _ (by repeat (first | (with_reducible exact Kp.refl _) | (with_reducible assumption) | (with_reducible apply Kp.ext) | (with_reducible apply Kp.alloc) | (with_reducible apply Kp.drew) | (with_reducible apply Kp.drewN) | (with_reducible refine Kp.setCell ?_ (by first | (dsimp only; omega) | (simp; omega) | (simp; done) | (simp [size_ext_eq]; omega)) _))))).mono ?_) | (with_reducible refine (Hsh.out _ (by repeat (first | (with_reducible exact Kp.refl _) | (with_reducible assumption) | (with_reducible apply Kp.ext) | (with_reducible apply Kp.alloc) | (with_reducible apply Kp.drew) | (with_reducible apply Kp.drewN) | (with_reducible refine Kp.setCell ?_ (by first | (dsimp only; omega) | (simp; omega) | (simp; done) | (simp [size_ext_eq]; omega)) _)))).mono ?_)); rintro e w' ⟨rfl, u, rfl⟩)
      go_ret
      exact Ret.mk rfl (by repeat (first | (with_reducible exact Kp.refl _) | (with_reducible assumption) | (with_reducible apply Kp.ext) | (with_reducible apply Kp.alloc) | (with_reducible apply Kp.drew) | (with_reducible apply Kp.drewN) | (with_reducible refine Kp.setCell ?_ (by first | (dsimp only; omega) | (simp; omega) | (simp; done) | (simp [size_ext_eq]; omega)) _)))
    · rw [hS] at hsh
      have Hsh := Lib.hid hsh
      clear hsh hS hl
      by_cases h0 : s.lists.length = 0
      · have e1 : (s.lists.length == 0) = true := beq_iff_eq.2 h0
        have e2 : ((s.lists.length : Int) == 0) = true := beq_iff_eq.2 (by omega)
        have e3 : decide (s.lists.length ≠ 0) = false := decide_eq_false (by omega)
        have e4 : (s.lists.length = 0) = True := eq_true h0
        rw [e3]
        clear h0 e3 hget hrs
        go_enter Tryz.func5, Tryz.ntmps5
        go_wp2_with (go_at_call 10; (first | (with_reducible refine (Ret.at_ext (Hsh.out _ (by repeat (first | (with_reducible exact Kp.refl _) | (with_reducible assumption) | (with_reducible apply Kp.ext) | (with_reducible apply Kp.alloc) | (with_reducible apply Kp.drew) | (with_reducible apply Kp.drewN) | (with_reducible refine Kp.setCell ?_ (by first | (dsimp only; omega) | (simp; omega) | (simp; done) | (simp [size_ext_eq]; omega)) _))))).mono ?_) | (with_reducible refine (Hsh.out _ (by repeat (first | (with_reducible exact Kp.refl _) | (with_reducible assumption) | (with_reducible apply Kp.ext) | (with_reducible apply Kp.alloc) | (with_reducible apply Kp.drew) | (with_reducible apply Kp.drewN) | (with_reducible refine Kp.setCell ?_ (by first | (dsimp only; omega) | (simp; omega) | (simp; done) | (simp [size_ext_eq]; omega)) _)))).mono ?_)); rintro e w' ⟨rfl, u, rfl⟩)
        go_ret
        exact Ret.mk rfl (by repeat (first | (with_reducible exact Kp.refl _) | (with_reducible assumption) | (with_reducible apply Kp.ext) | (with_reducible apply Kp.alloc) | (with_reducible apply Kp.drew) | (with_reducible apply Kp.drewN) | (with_reducible refine Kp.setCell ?_ (by first | (dsimp only; omega) | (simp; omega) | (simp; done) | (simp [size_ext_eq]; omega)) _)))
      · have e1 : (s.lists.length == 0) = false := beq_eq_false_iff_ne.2 h0
        have e2 : ((s.lists.length : Int) == 0) = false := beq_eq_false_iff_ne.2 (by omega)
        have e3 : decide (s.lists.length ≠ 0) = true := decide_eq_true h0
        have e4 : (s.lists.length = 0) = False := eq_false h0
        rw [e3]
        clear e3
        by_cases h6 : s.lists.length ≤ 6
        · have e5 : ((6 : Int) < (s.lists.length : Int)) = False := eq_false (by omega)
          rw [decide_eq_true h6]
          have Hget := Lib.hid hget
          have Hrs := Lib.hid hrs
          clear h0 hget hrs
          go_enter Tryz.func5, Tryz.ntmps5
          go_wp2_with (go_at_call 10; (first | (with_reducible refine (Ret.at_ext (Hsh.out _ (by repeat (first | (with_reducible exact Kp.refl _) | (with_reducible assumption) | (with_reducible apply Kp.ext) | (with_reducible apply Kp.alloc) | (with_reducible apply Kp.drew) | (with_reducible apply Kp.drewN) | (with_reducible refine Kp.setCell ?_ (by first | (dsimp only; omega) | (simp; omega) | (simp; done) | (simp [size_ext_eq]; omega)) _))))).mono ?_) | (with_reducible refine (Hsh.out _ (by repeat (first | (with_reducible exact Kp.refl _) | (with_reducible assumption) | (with_reducible apply Kp.ext) | (with_reducible apply Kp.alloc) | (with_reducible apply Kp.drew) | (with_reducible apply Kp.drewN) | (with_reducible refine Kp.setCell ?_ (by first | (dsimp only; omega) | (simp; omega) | (simp; done) | (simp [size_ext_eq]; omega)) _)))).mono ?_)); rintro e w' ⟨rfl, u, rfl⟩)
          go_loopw [28] (fun s28 wr => ∃ k : Nat, k ≤ s.lists.length ∧ s28 = .int .i64 k ∧ Kp w wr ∧ AllTo rs k) (fun s28 _ => s.lists.length - (intOf s28).toNat)
          case atStart => exact ⟨0, by omega, rfl, (by repeat (first | (with_reducible exact Kp.refl _) | (with_reducible assumption) | (with_reducible apply Kp.ext) | (with_reducible apply Kp.alloc) | (with_reducible apply Kp.drew) | (with_reducible apply Kp.drewN) | (with_reducible refine Kp.setCell ?_ (by first | (dsimp only; omega) | (simp; omega) | (simp; done) | (simp [size_ext_eq]; omega)) _))), fun i hi => by omega⟩
          case round =>
            obtain ⟨k, hk, rfl, hkp, hf⟩ := hrel
            have Hf := Lib.hid hf
            clear hf
            by_cases hlt : k < s.lists.length
            · obtain ⟨b, off, a', cap', rfl, hb, hc, _, hin, _⟩ := Hget.out k hlt
              have hc' := Kp.cell hkp hc hb
              have hbr : b < wr.heap.size := Nat.lt_of_lt_of_le hb hkp.size
              have hsi := Lib.hid (fun w' (hk' : Kp wr w') => (Hrs.out k hlt).1 a' cap' w' ((hin.kp hkp).kp hk'))
              clear hc hin
              obtain ⟨l1, hl1⟩ : ∃ l, (s.lists[k]'hlt).length = l := ⟨_, rfl⟩
              rw [hl1] at hc' hsi
              clear hl1
              cases ck : rs k
              · have Hr := Lib.hid (all_no hlt ck)
                rw [ck] at hsi
                clear ck
                go_wp2_with (go_at_call 11; (first | (with_reducible refine (Ret.at_ext (hsi.out _ (by repeat (first | (with_reducible exact Kp.refl _) | (with_reducible assumption) | (with_reducible apply Kp.ext) | (with_reducible apply Kp.alloc) | (with_reducible apply Kp.drew) | (with_reducible apply Kp.drewN) | (with_reducible refine Kp.setCell ?_ (by first | (dsimp only; omega) | (simp; omega) | (simp; done) | (simp [size_ext_eq]; omega)) _))))).mono ?_) | (with_reducible refine (hsi.out _ (by repeat (first | (with_reducible exact Kp.refl _) | (with_reducible assumption) | (with_reducible apply Kp.ext) | (with_reducible apply Kp.alloc) | (with_reducible apply Kp.drew) | (with_reducible apply Kp.drewN) | (with_reducible refine Kp.setCell ?_ (by first | (dsimp only; omega) | (simp; omega) | (simp; done) | (simp [size_ext_eq]; omega)) _)))).mono ?_)); rintro e w' ⟨rfl, u, rfl⟩)
                go_ret
                exact Ret.mk (by rw [Hr.out]; rfl) (by repeat (first | (with_reducible exact Kp.refl _) | (with_reducible assumption) | (with_reducible apply Kp.ext) | (with_reducible apply Kp.alloc) | (with_reducible apply Kp.drew) | (with_reducible apply Kp.drewN) | (with_reducible refine Kp.setCell ?_ (by first | (dsimp only; omega) | (simp; omega) | (simp; done) | (simp [size_ext_eq]; omega)) _)))
              · have Hf2 := Lib.hid (Hf.out.succ ck)
                rw [ck] at hsi
                clear ck
                go_wp2_with (go_at_call 11; (first | (with_reducible refine (Ret.at_ext (hsi.out _ (by repeat (first | (with_reducible exact Kp.refl _) | (with_reducible assumption) | (with_reducible apply Kp.ext) | (with_reducible apply Kp.alloc) | (with_reducible apply Kp.drew) | (with_reducible apply Kp.drewN) | (with_reducible refine Kp.setCell ?_ (by first | (dsimp only; omega) | (simp; omega) | (simp; done) | (simp [size_ext_eq]; omega)) _))))).mono ?_) | (with_reducible refine (hsi.out _ (by repeat (first | (with_reducible exact Kp.refl _) | (with_reducible assumption) | (with_reducible apply Kp.ext) | (with_reducible apply Kp.alloc) | (with_reducible apply Kp.drew) | (with_reducible apply Kp.drewN) | (with_reducible refine Kp.setCell ?_ (by first | (dsimp only; omega) | (simp; omega) | (simp; done) | (simp [size_ext_eq]; omega)) _)))).mono ?_)); rintro e w' ⟨rfl, u, rfl⟩)
                go_roundw
                case rel => exact ⟨k + 1, by omega, by go_num, (by repeat (first | (with_reducible exact Kp.refl _) | (with_reducible assumption) | (with_reducible apply Kp.ext) | (with_reducible apply Kp.alloc) | (with_reducible apply Kp.drew) | (with_reducible apply Kp.drewN) | (with_reducible refine Kp.setCell ?_ (by first | (dsimp only; omega) | (simp; omega) | (simp; done) | (simp [size_ext_eq]; omega)) _))), Hf2.out⟩
                case measure => simp [intOf]; omega
            · obtain rfl : k = s.lists.length := by omega
              have Hr := Lib.hid (all_yes Hf.out)
              go_wp2_with fail
              go_ret
              exact Ret.mk (by rw [Hr.out]; rfl) (by repeat (first | (with_reducible exact Kp.refl _) | (with_reducible assumption) | (with_reducible apply Kp.ext) | (with_reducible apply Kp.alloc) | (with_reducible apply Kp.drew) | (with_reducible apply Kp.drewN) | (with_reducible refine Kp.setCell ?_ (by first | (dsimp only; omega) | (simp; omega) | (simp; done) | (simp [size_ext_eq]; omega)) _)))
        · have e5 : ((6 : Int) < (s.lists.length : Int)) = True := eq_true (by omega)
          rw [decide_eq_false h6]
          clear h0 h6 hget hrs
          go_enter Tryz.func5, Tryz.ntmps5
          go_wp2_with (go_at_call 10; (first | (with_reducible refine (Ret.at_ext (Hsh.out _ (by repeat (first | (with_reducible exact Kp.refl _) | (with_reducible assumption) | (with_reducible apply Kp.ext) | (with_reducible apply Kp.alloc) | (with_reducible apply Kp.drew) | (with_reducible apply Kp.drewN) | (with_reducible refine Kp.setCell ?_ (by first | (dsimp only; omega) | (simp; omega) | (simp; done) | (simp [size_ext_eq]; omega)) _))))).mono ?_) | (with_reducible refine (Hsh.out _ (by repeat (first | (with_reducible exact Kp.refl _) | (with_reducible assumption) | (with_reducible apply Kp.ext) | (with_reducible apply Kp.alloc) | (with_reducible apply Kp.drew) | (with_reducible apply Kp.drewN) | (with_reducible refine Kp.setCell ?_ (by first | (dsimp only; omega) | (simp; omega) | (simp; done) | (simp [size_ext_eq]; omega)) _)))).mono ?_)); rintro e w' ⟨rfl, u, rfl⟩)
          go_ret
          exact Ret.mk rfl (by repeat (first | (with_reducible exact Kp.refl _) | (with_reducible assumption) | (with_reducible apply Kp.ext) | (with_reducible apply Kp.alloc) | (with_reducible apply Kp.drew) | (with_reducible apply Kp.drewN) | (with_reducible refine Kp.setCell ?_ (by first | (dsimp only; omega) | (simp; omega) | (simp; done) | (simp [size_ext_eq]; omega)) _)))
  · have e0 : isPolyB s rs = false := by unfold isPolyB; rw [decide_eq_false h3]; rfl
    rw [e0]
    have e1 : (s.kind = 3) = False := eq_false h3
    have e2 : (s.kind == 3) = false := beq_eq_false_iff_ne.2 h3
    clear h3 e0 hsh hget hrs hl
    go_enter Tryz.func5, Tryz.ntmps5
    go_wp2_with fail
    go_ret
    exact Ret.mk rfl (by repeat (first | (with_reducible exact Kp.refl _) | (with_reducible assumption) | (with_reducible apply Kp.ext) | (with_reducible apply Kp.alloc) | (with_reducible apply Kp.drew) | (with_reducible apply Kp.drewN) | (with_reducible refine Kp.setCell ?_ (by first | (dsimp only; omega) | (simp; omega) | (simp; done) | (simp [size_ext_eq]; omega)) _)))
theorem isPoly_facts {s : Sh} {rs : Nat → Bool} (hrs : SimpleAt s.lists rs) (h : isPolyB s rs = true) : s.kind = 3 ∧ 0 < s.lists.length ∧ s.lists.length ≤ 6 ∧ ∃ Ps, RingsP s.lists Ps := by
  unfold isPolyB at h
  simp only [Bool.and_eq_true, decide_eq_true_eq, List.all_eq_true] at h
  obtain ⟨⟨⟨⟨h1, h2⟩, h3⟩, h4⟩, h5⟩ := h
  refine ⟨h1, by omega, h4, ?_⟩
  have : ∀ i, i < s.lists.length → ∃ P : Nat → Int × Int, RingP (s.lists.getD i []) P := fun i hi => by
    rw [getD_l _ _ hi]; exact (hrs i hi).2 (h5 i (List.mem_range.2 hi))
  obtain ⟨Ps, h⟩ := Go.Deep.choose_lt this
  exact ⟨Ps, fun i hi => by have := h i hi; rwa [getD_l _ _ hi] at this⟩

/-- the borders of the holes, and what is inside them -/
def borderAt (lss : List (List (Nat × Nat))) (Ps : Nat → Nat → Int × Int) (p : Int × Int) (i : Nat) : Bool := borderB (Ps i) ((lss.getD i []).length - 1) p
def insideAt (lss : List (List (Nat × Nat))) (Ps : Nat → Nat → Int × Int) (p : Int × Int) (i : Nat) : Bool := parTo (fun j => rightI (Ps i j) (Ps i (j + 1)) p) ((lss.getD i []).length - 1)
/-- where the first list lies, and the others -/
theorem slice_tail {w : World} {ls : List (List (Nat × Nat))} {a : Option Addr} {cap : Nat} (h : LissIn w (.slice a ls.length cap) ls) (hpos : 0 < ls.length) : ∃ L off, a = some ⟨L, off, none⟩ ∧ L < w.heap.size ∧ ls.length ≤ cap ∧
    ∀ (i : Nat) (hi : i < ls.length), ∃ a' cap', w.cell? ⟨L, off + i, none⟩ = some (.slice a' (ls[i]'hi).length cap') ∧ PtsIn w a' (ls[i]'hi) := by
  obtain ⟨a0, c0, hv, hc⟩ := h.cap
  obtain ⟨a1, c1, hv1, _, hget⟩ := h.get
  obtain ⟨rfl, rfl⟩ : _ ∧ _ := by simpa using hv
  obtain ⟨rfl, rfl⟩ : _ ∧ _ := by simpa using hv1
  obtain ⟨b, off, _, _, rfl, hb, _⟩ := hget 0 hpos
  refine ⟨b, off, rfl, hb, hc, fun i hi => ?_⟩
  obtain ⟨b', off', a', cap', h1, _, hcell, _, hin, _⟩ := hget i hi
  simp only [Option.some.injEq, Addr.mk.injEq, and_true] at h1
  obtain ⟨rfl, rfl⟩ := h1
  exact ⟨a', cap', hcell, hin⟩

/-- a hole has a point inside -/
def holeAt (lss : List (List (Nat × Nat))) (Ps : Nat → Nat → Int × Int) (p : Int × Int) (i : Nat) : Bool := !borderAt lss Ps p i && insideAt lss Ps p i
/-- off the borders of the holes a polygon has what its first ring has and no hole -/
theorem poly_value {ls : List (List (Nat × Nat))} {Ps : Nat → Nat → Int × Int} {p : Int × Int} (h : ((List.range (ls.length - 1)).any fun i => borderAt ls Ps p (i + 1)) = false) :
    polyI ls Ps p = (hasAt ls Ps p 0 && !(List.range (ls.length - 1)).any fun i => holeAt ls Ps p (i + 1)) := by
  unfold polyI
  congr 1
  have hno : ∀ i, i < ls.length - 1 → borderAt ls Ps p (i + 1) = false := fun i hi => by
    have := List.any_eq_false.1 h i (List.mem_range.2 hi)
    simpa using this
  rw [Bool.eq_iff_iff, List.all_eq_true, Bool.not_eq_true', List.any_eq_false]
  constructor
  · intro hh i hi
    have h1 := hh i hi
    have h2 := hno i (List.mem_range.1 hi)
    unfold holeAt
    unfold hasAt hasI at h1
    unfold borderAt at h2
    unfold borderAt insideAt
    rw [h2] at h1 ⊢
    simpa using h1
  · intro hh i hi
    have h1 := hh i hi
    have h2 := hno i (List.mem_range.1 hi)
    unfold holeAt borderAt insideAt at h1
    unfold borderAt at h2
    unfold hasAt hasI
    rw [h2] at h1 ⊢
    simpa using h1

theorem LissIn.listsIn {w : World} {ls : List (List (Nat × Nat))} {a : Option Addr} {cap : Nat} (h : LissIn w (.slice a ls.length cap) ls) : ListsIn w a ls := by
  by_cases h0 : ls.length = 0
  · exact .inl (List.eq_nil_of_length_eq_zero h0)
  · obtain ⟨L, off, rfl, hL, _, hget⟩ := slice_tail h (by omega)
    exact .inr ⟨L, off, rfl, hL, hget⟩
end Go.Proofs.YtohidpmkoehmcaaGreatDoor
