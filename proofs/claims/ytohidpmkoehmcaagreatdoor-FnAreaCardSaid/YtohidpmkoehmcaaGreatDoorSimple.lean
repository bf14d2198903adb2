/-
  spec.IsSimple on rings of whole numbers.
-/
import Derived.Test.YtohidpmkoehmcaaGreatDoorOnSeg
import Derived.Test.YtohidpmkoehmcaaGreatDoorLet
set_option linter.all false
namespace Go.Proofs.YtohidpmkoehmcaaGreatDoor
open PubFl Go.RowKit

attribute [local go_sem] cell_ext frozen_ext ext_setCell cell_store size_ext_eq lt_p0 lt_p1 lt_p2 lt_p3 lt_p4 lt_p5 lt_p6 lt_p7 lt_p8 lt_p9 lt_p10 lt_p11 lt_p12 lt_p13 lt_p14 lt_p15 lt_p16 lt_p17 lt_p18 lt_p19 lt_p20 lt_p21 lt_p22 lt_p23 lt_p24 lt_p25 lt_p26 lt_p27 lt_p28 lt_p29 lt_p30 lt_p31 lt_p32 lt_q1 lt_q2 lt_q3 lt_q4 lt_q5 lt_q6 lt_q7 lt_q8 lt_q9 lt_q10 lt_q11 lt_q12 lt_q13 lt_q14 lt_q15 lt_q16 lt_q17 lt_q18 lt_q19 lt_q20 lt_q21 lt_q22 lt_q23 lt_q24 lt_q25 lt_q26 lt_q27 lt_q28 lt_q29 lt_q30 lt_q31 lt_q32 run_fop run_store_float
attribute [local go_sem high] cmp_eql cmp_neq cmp_lss cmp_leq cmp_gtr cmp_geq

theorem allocPt (w : World) : (Instr.alloc 39 true (.tuple #[])).run Tryz.prog w = .ok (.pointer (some ⟨w.heap.size, 0, none⟩)) (w.alloc (.cells #[.float .f64 0, .float .f64 0] 39)) := by kernel_rfl
theorem storePt (w : World) (A x y : Nat) (h0 : (w.cell? ⟨A, 0, none⟩).isSome = true) (h1 : (w.cell? ⟨A, 1, none⟩).isSome = true) (f0 : w.frozen? ⟨A, 0, none⟩ = false) (f1 : w.frozen? ⟨A, 1, none⟩ = false) :
    (Instr.storeAt 39 (.pointer (some ⟨A, 0, none⟩)) (.agg #[.float .f64 x, .float .f64 y])).run Tryz.prog w = .ok () ((w.setCell ⟨A, 0, none⟩ (.float .f64 x)).setCell ⟨A, 1, none⟩ (.float .f64 y)) := by
  obtain ⟨u, hu⟩ := Option.isSome_iff_exists.1 h0
  obtain ⟨v, hv⟩ := Option.isSome_iff_exists.1 h1
  clear h0 h1
  have e1 : (w.setCell ⟨A, 0, none⟩ (.float .f64 x)).cell? ⟨A, 1, none⟩ = some v := by
    rw [World.cell?_setCell_other _ _ _ _ (by simp)]; exact hv
  simp [go_sem, hu, hv, f0, f1, e1]

def pairI (P : Nat → Int × Int) (n i k : Nat) : Bool :=
  if k = i + 1 then !(onSegI (P i) (P (i + 1)) (P (k + 1)) || onSegI (P k) (P (k + 1)) (P i))
  else if i = 0 ∧ k = n - 1 then !(onSegI (P i) (P (i + 1)) (P k) || onSegI (P k) (P (k + 1)) (P (i + 1)))
  else !(meetI (P i) (P (i + 1)) (P k) (P (k + 1)))
def sameP (p q : Int × Int) : Bool := decide (p.1 = q.1) && decide (p.2 = q.2)
def rowI (P : Nat → Int × Int) (n i : Nat) : Bool := !sameP (P i) (P (i + 1)) && (List.range n).all fun k => decide (k ≤ i) || pairI P n i k
def simpleI (P : Nat → Int × Int) (n : Nat) (T : Int) : Bool := decide (T ≠ 0) && (List.range n).all fun i => rowI P n i
/-- so far -/
def RowsOk (P : Nat → Int × Int) (n i : Nat) : Prop := ∀ j, j < i → rowI P n j = true
def PairsOk (P : Nat → Int × Int) (n i k : Nat) : Prop := ∀ j, i < j → j < k → pairI P n i j = true
theorem RowsOk.succ {P : Nat → Int × Int} {n i : Nat} (h : RowsOk P n i) (hs : sameP (P i) (P (i + 1)) = false) (hp : PairsOk P n i n) : RowsOk P n (i + 1) := by
  intro j hj
  by_cases c : j = i
  · subst c
    unfold rowI
    rw [hs]
    simp only [Bool.not_false, Bool.true_and, List.all_eq_true, List.mem_range, Bool.or_eq_true, decide_eq_true_eq]
    intro k hk
    by_cases d : k ≤ j
    · exact .inl d
    · exact .inr (hp k (by omega) hk)
  · exact h j (by omega)
theorem PairsOk.succ {P : Nat → Int × Int} {n i k : Nat} (h : PairsOk P n i k) (hp : pairI P n i k = true) : PairsOk P n i (k + 1) := by
  intro j h1 h2
  by_cases c : j = k
  · subst c; exact hp
  · exact h j h1 (by omega)

/-- what the answer is -/
structure SimpFacts (P : Nat → Int × Int) (n : Nat) (T : Int) (b : Bool) : Prop where
  zero : T = 0 → b = false
  same : ∀ i, i < n → sameP (P i) (P (i + 1)) = true → b = false
  pair : ∀ i k, i < k → k < n → pairI P n i k = false → b = false
  all : T ≠ 0 → RowsOk P n n → b = true
theorem simp_facts (P : Nat → Int × Int) (n : Nat) (T : Int) : SimpFacts P n T (simpleI P n T) := by
  have row : ∀ i, i < n → rowI P n i = false → simpleI P n T = false := fun i hi h => by
    unfold simpleI
    rw [show ((List.range n).all fun i => rowI P n i) = false from List.all_eq_false.2 ⟨i, List.mem_range.2 hi, by rw [h]; decide⟩, Bool.and_false]
  refine ⟨fun h => by unfold simpleI; rw [h]; rfl, fun i hi h => row i hi (by unfold rowI; rw [h]; rfl), fun i k h1 h2 h => row i (by omega) ?_, fun h1 h2 => ?_⟩
  · unfold rowI
    rw [show ((List.range n).all fun k => decide (k ≤ i) || pairI P n i k) = false from List.all_eq_false.2 ⟨k, List.mem_range.2 h2, by rw [h, decide_eq_false (by omega)]; decide⟩, Bool.and_false]
  · unfold simpleI
    rw [decide_eq_true h1, Bool.true_and, List.all_eq_true]
    intro i hi
    exact h2 i (List.mem_range.1 hi)

theorem IntPts.pt {ps : List (Nat × Nat)} {x y : Nat → Int} (h : IntPts ps x y) (i : Nat) (hi : i < ps.length) : PtV (ps[i]'hi).1 (ps[i]'hi).2 (x i, y i) := by
  obtain ⟨h1, h2, h3, h4⟩ := h i hi
  exact ⟨h1, h2, h3, h4⟩
theorem PtV.same {ax ay bx by' : Nat} {a b : Int × Int} (ha : PtV ax ay a) (hb : PtV bx by' b) : (eqF ax bx && eqF ay by') = sameP a b := by
  unfold sameP; rw [eqF_int ha.x hb.x, eqF_int ha.y hb.y]

set_option maxRecDepth 100000 in
set_option maxHeartbeats 8000000 in
theorem isSimple_c (b off cap : Nat) (ps : List (Nat × Nat)) (h4 : 4 ≤ ps.length) (hle : ps.length ≤ 100) (w : World) (hb : b < w.heap.size) (hpt : PtsAt w b off ps) (hbits : Bits ps) (hR : ringB ps = true) (x y : Nat → Int) (hi : IntPts ps x y) (r : Bool)
    (F : SimpFacts (fun i => (x i, y i)) (ps.length - 1) (sgn (sumTo (crossT x y) (ps.length - 1))) r) :
    Calls Tryz.prog 11 #[.slice (some ⟨b, off, none⟩) ps.length cap] w (Ret w (.bool r)) := by
  have hs : ∀ w', Kp w w' → PtsIn w' (some ⟨b, off, none⟩) ps := fun w' hk => .inr ⟨b, off, rfl, Nat.lt_of_lt_of_le hb hk.size, hpt.kp hb hk⟩
  have hc : ∀ w', Kp w w' → _ := fun w' hk => isRing_c (some ⟨b, off, none⟩) cap ps (by omega) w' (hs w' hk) hbits
  have ht : ∀ w', Kp w w' → _ := fun w' hk => turn_c (some ⟨b, off, none⟩) cap ps (by omega) (by omega) w' (hs w' hk) x y hi
  rw [hR] at hc
  generalize sgn (sumTo (crossT x y) (ps.length - 1)) = T at *
  have Hc := Lib.hid hc
  have Ht := Lib.hid ht
  clear hc ht hs hR
  obtain ⟨f0, f1, f2, f3⟩ := F
  obtain ⟨n, hn⟩ : ∃ n : Nat, ps.length = n + 1 := ⟨ps.length - 1, by omega⟩
  rw [show ps.length - 1 = n by omega] at f1 f2 f3
  have hsum : ((ps.length : Int) - 1) = (n : Int) := by omega
  have hw2 : IntKind.i64.wrap (n : Int) = (n : Int) := wrap_in _ (by omega) (by omega)
  by_cases hT : T = 0
  · obtain rfl := f0 hT
    have Hn := Lib.hid hn
    clear f0 f1 f2 f3 hsum hw2 hn
    subst hT
    go_enter Tryz.func11, Tryz.ntmps11
    go_wp2_with (first | (go_at_call 20; (first | (with_reducible refine (Ret.at_ext (Hc.out _ (by repeat (first | (with_reducible exact Kp.refl _) | (with_reducible assumption) | (with_reducible apply Kp.ext) | (with_reducible apply Kp.alloc) | (with_reducible apply Kp.drew) | (with_reducible apply Kp.drewN) | (with_reducible refine Kp.setCell ?_ (by first | (dsimp only; omega) | (simp; omega) | (simp; done) | (simp [size_ext_eq]; omega)) _))))).mono ?_) | (with_reducible refine (Hc.out _ (by repeat (first | (with_reducible exact Kp.refl _) | (with_reducible assumption) | (with_reducible apply Kp.ext) | (with_reducible apply Kp.alloc) | (with_reducible apply Kp.drew) | (with_reducible apply Kp.drewN) | (with_reducible refine Kp.setCell ?_ (by first | (dsimp only; omega) | (simp; omega) | (simp; done) | (simp [size_ext_eq]; omega)) _)))).mono ?_)); rintro e w' ⟨rfl, u, rfl⟩) | (go_at_call 21; (first | (with_reducible refine (Ret.at_ext (Ht.out _ (by repeat (first | (with_reducible exact Kp.refl _) | (with_reducible assumption) | (with_reducible apply Kp.ext) | (with_reducible apply Kp.alloc) | (with_reducible apply Kp.drew) | (with_reducible apply Kp.drewN) | (with_reducible refine Kp.setCell ?_ (by first | (dsimp only; omega) | (simp; omega) | (simp; done) | (simp [size_ext_eq]; omega)) _))))).mono ?_) | (with_reducible refine (Ht.out _ (by repeat (first | (with_reducible exact Kp.refl _) | (with_reducible assumption) | (with_reducible apply Kp.ext) | (with_reducible apply Kp.alloc) | (with_reducible apply Kp.drew) | (with_reducible apply Kp.drewN) | (with_reducible refine Kp.setCell ?_ (by first | (dsimp only; omega) | (simp; omega) | (simp; done) | (simp [size_ext_eq]; omega)) _)))).mono ?_)); rintro e w' ⟨rfl, u, rfl⟩))
    go_ret
    exact Ret.mk rfl (by repeat (first | (with_reducible exact Kp.refl _) | (with_reducible assumption) | (with_reducible apply Kp.ext) | (with_reducible apply Kp.alloc) | (with_reducible apply Kp.drew) | (with_reducible apply Kp.drewN) | (with_reducible refine Kp.setCell ?_ (by first | (dsimp only; omega) | (simp; omega) | (simp; done) | (simp [size_ext_eq]; omega)) _)))
  · have g1 : (T = 0) = False := eq_false hT
    have g2 : (T == 0) = false := beq_eq_false_iff_ne.2 hT
    have g3 : decide (T = 0) = false := decide_eq_false hT
    have f4 := f3 hT
    have HT := Lib.hid hT
    have F1 := Lib.hid f1
    have F2 := Lib.hid f2
    have F3 := Lib.hid f4
    have Hpt := Lib.hid hpt
    have Hi := Lib.hid hi
    have Hn := Lib.hid hn
    have hlen : (ps.length : Int) = (n : Int) + 1 := by omega
    have Hlen := Lib.hid hlen
    have hnn : n ≤ 99 := by omega
    have hn3 : 3 ≤ n := by omega
    clear f0 f1 f2 f3 f4 hT hpt hi hbits hn hlen
    go_enter Tryz.func11, Tryz.ntmps11
    go_wp2_with (first | (go_at_call 20; (first | (with_reducible refine (Ret.at_ext (Hc.out _ (by repeat (first | (with_reducible exact Kp.refl _) | (with_reducible assumption) | (with_reducible apply Kp.ext) | (with_reducible apply Kp.alloc) | (with_reducible apply Kp.drew) | (with_reducible apply Kp.drewN) | (with_reducible refine Kp.setCell ?_ (by first | (dsimp only; omega) | (simp; omega) | (simp; done) | (simp [size_ext_eq]; omega)) _))))).mono ?_) | (with_reducible refine (Hc.out _ (by repeat (first | (with_reducible exact Kp.refl _) | (with_reducible assumption) | (with_reducible apply Kp.ext) | (with_reducible apply Kp.alloc) | (with_reducible apply Kp.drew) | (with_reducible apply Kp.drewN) | (with_reducible refine Kp.setCell ?_ (by first | (dsimp only; omega) | (simp; omega) | (simp; done) | (simp [size_ext_eq]; omega)) _)))).mono ?_)); rintro e w' ⟨rfl, u, rfl⟩) | (go_at_call 21; (first | (with_reducible refine (Ret.at_ext (Ht.out _ (by repeat (first | (with_reducible exact Kp.refl _) | (with_reducible assumption) | (with_reducible apply Kp.ext) | (with_reducible apply Kp.alloc) | (with_reducible apply Kp.drew) | (with_reducible apply Kp.drewN) | (with_reducible refine Kp.setCell ?_ (by first | (dsimp only; omega) | (simp; omega) | (simp; done) | (simp [size_ext_eq]; omega)) _))))).mono ?_) | (with_reducible refine (Ht.out _ (by repeat (first | (with_reducible exact Kp.refl _) | (with_reducible assumption) | (with_reducible apply Kp.ext) | (with_reducible apply Kp.alloc) | (with_reducible apply Kp.drew) | (with_reducible apply Kp.drewN) | (with_reducible refine Kp.setCell ?_ (by first | (dsimp only; omega) | (simp; omega) | (simp; done) | (simp [size_ext_eq]; omega)) _)))).mono ?_)); rintro e w' ⟨rfl, u, rfl⟩))
    go_loopw [22] (fun s22 wr => ∃ i : Nat, i ≤ n ∧ s22 = .int .i64 i ∧ Kp w wr ∧ RowsOk (fun i => (x i, y i)) n i) (fun s22 _ => n + 1 - (intOf s22).toNat)
    case atStart => exact ⟨0, by omega, rfl, (by repeat (first | (with_reducible exact Kp.refl _) | (with_reducible assumption) | (with_reducible apply Kp.ext) | (with_reducible apply Kp.alloc) | (with_reducible apply Kp.drew) | (with_reducible apply Kp.drewN) | (with_reducible refine Kp.setCell ?_ (by first | (dsimp only; omega) | (simp; omega) | (simp; done) | (simp [size_ext_eq]; omega)) _))), fun j hj => by omega⟩
    case round =>
      obtain ⟨i, hin, rfl, hkp, hrow⟩ := hrel
      have Hrow := Lib.hid hrow
      clear hrow
      by_cases hlt : i < n
      · obtain ⟨e0, e1⟩ := Hpt.out.kp hb hkp i (by have := Hn.out; omega)
        obtain ⟨e2, e3⟩ := Hpt.out.kp hb hkp (i + 1) (by have := Hn.out; omega)
        have va := Hi.out.pt i (by have := Hn.out; omega)
        have vb := Hi.out.pt (i + 1) (by have := Hn.out; omega)
        obtain ⟨⟨ax, ay⟩, hq⟩ : ∃ q, ps[i]'(by have := Hn.out; omega) = q := ⟨_, rfl⟩
        obtain ⟨⟨bx, by'⟩, hq'⟩ : ∃ q, ps[i + 1]'(by have := Hn.out; omega) = q := ⟨_, rfl⟩
        simp only [hq] at e0 e1 va
        simp only [hq'] at e2 e3 vb
        clear hq hq'
        have hsame := va.same vb
        have heq : ∀ w, _ := fun w => run_eql_pt ax ay bx by' w
        rw [hsame] at heq
        clear hsame
        have hbk : b < wr.heap.size := Nat.lt_of_lt_of_le hb hkp.size
        have hk0 : (0 : Int) ≤ (i : Int) := by omega
        have hk1 : (i : Int) < (ps.length : Int) := by have := Hlen.out; omega
        have hk2 : (0 : Int) ≤ (i : Int) + 1 := by omega
        have hk3 : (i : Int) + 1 < (ps.length : Int) := by have := Hlen.out; omega
        have hk4 : ((i : Int) + 1).toNat = i + 1 := by omega
        have hw3 : IntKind.i64.wrap ((i : Int) + 1) = (i : Int) + 1 := wrap_in _ (by omega) (by omega)
        cases hsm : sameP (x i, y i) (x (i + 1), y (i + 1))
        · rw [hsm] at heq
          go_wp2_with fail
          first | (with_reducible refine wp_region_ext_lit2 ?_ ?_ ?_) | refine wp_region_ext_lit ?_ ?_ ?_
          kernel_rfl
          kernel_rfl
          repeat (go_big_quiet_step (fail))
          refine wpQuiet_nil ?_
          rintro _ ⟨u, rfl⟩
          go_wp2_with fail
          obtain ⟨wo, hwo⟩ : ∃ wo, wo = ext wr u := ⟨_, rfl⟩
          have hko : Kp w wo := by rw [hwo]; exact Kp.ext hkp _
          rw [← hwo]
          clear hwo hkp e0 e1 e2 e3 heq hbk hk1 hk3
          have Hsm := Lib.hid hsm
          clear hsm
          go_loopw [5] (fun s5 wx => ∃ k : Nat, i + 1 ≤ k ∧ k ≤ n ∧ s5 = .int .i64 k ∧ Kp w wx ∧ PairsOk (fun i => (x i, y i)) n i k) (fun s5 _ => n + 1 - (intOf s5).toNat)
          case atStart => exact ⟨i + 1, by omega, by omega, by go_num, hko, fun j h1 h2 => by omega⟩
          case round =>
            obtain ⟨k, hik, hkn, rfl, hkx, hpair⟩ := hrel
            have Hpair := Lib.hid hpair
            clear hpair hko
            by_cases hlt2 : k < n
            · obtain ⟨e0, e1⟩ := Hpt.out.kp hb hkx i (by have := Hn.out; omega)
              obtain ⟨e2, e3⟩ := Hpt.out.kp hb hkx (i + 1) (by have := Hn.out; omega)
              obtain ⟨e4, e5⟩ := Hpt.out.kp hb hkx k (by have := Hn.out; omega)
              obtain ⟨e6, e7⟩ := Hpt.out.kp hb hkx (k + 1) (by have := Hn.out; omega)
              have va := Hi.out.pt i (by have := Hn.out; omega)
              have vb := Hi.out.pt (i + 1) (by have := Hn.out; omega)
              have vc := Hi.out.pt k (by have := Hn.out; omega)
              have vd := Hi.out.pt (k + 1) (by have := Hn.out; omega)
              obtain ⟨⟨ax, ay⟩, hq⟩ : ∃ q, ps[i]'(by have := Hn.out; omega) = q := ⟨_, rfl⟩
              obtain ⟨⟨bx, by'⟩, hq'⟩ : ∃ q, ps[i + 1]'(by have := Hn.out; omega) = q := ⟨_, rfl⟩
              obtain ⟨⟨cx, cy⟩, hq2⟩ : ∃ q, ps[k]'(by have := Hn.out; omega) = q := ⟨_, rfl⟩
              obtain ⟨⟨dx, dy⟩, hq3⟩ : ∃ q, ps[k + 1]'(by have := Hn.out; omega) = q := ⟨_, rfl⟩
              simp only [hq] at e0 e1 va
              simp only [hq'] at e2 e3 vb
              simp only [hq2] at e4 e5 vc
              simp only [hq3] at e6 e7 vd
              clear hq hq' hq2 hq3
              have hbk : b < wr.heap.size := Nat.lt_of_lt_of_le hb hkx.size
              have hk1 : (i : Int) < (ps.length : Int) := by have := Hlen.out; omega
              have hk3 : (i : Int) + 1 < (ps.length : Int) := by have := Hlen.out; omega
              have hl0 : (0 : Int) ≤ (k : Int) := by omega
              have hl1 : (k : Int) < (ps.length : Int) := by have := Hlen.out; omega
              have hl2 : (0 : Int) ≤ (k : Int) + 1 := by omega
              have hl3 : (k : Int) + 1 < (ps.length : Int) := by have := Hlen.out; omega
              have hl4 : ((k : Int) + 1).toNat = k + 1 := by omega
              have hw4 : IntKind.i64.wrap ((k : Int) + 1) = (k : Int) + 1 := wrap_in _ (by omega) (by omega)
              go_upto_region 12 with fail
              refine wp_region_let4 18 6 7 8 9 45 50 54 59 39 ?_ allocPt storePt ?_ ?_ ⟨_, _, _, rfl⟩ ⟨_, _, _, rfl⟩ ⟨_, _, _, rfl⟩ ⟨_, _, _, rfl⟩ ⟨_, _, _, rfl⟩ ⟨_, _, _, rfl⟩ ⟨_, _, _, rfl⟩ ⟨_, _, _, rfl⟩ ?_
              · kernel_rfl
              · kernel_rfl
              · refine ⟨by decide, by decide, by decide, by decide, by decide, by decide, fun s hs => ?_⟩
                rcases hs with rfl | rfl | rfl | rfl <;> decide
              simp only [List.take_succ_cons, List.take_zero]
              repeat (go_big_quiet_step (fail))
              refine wpQuiet_nil ?_
              refine ⟨(ax, ay), (bx, by'), (cx, cy), (dx, dy), rfl, rfl, rfl, rfl, ?_, ?_⟩
              · exact ⟨by simp, by simp, by simp, by simp⟩
              intro A B C D wb L
              clear e0 e1 e2 e3 e4 e5 e6 e7
              obtain ⟨lk, n1, n2, n3, n4⟩ := L
              have hkb : Kp w wb := Kp.trans hkx lk
              obtain ⟨_, i1, a1, b1, f1, g1⟩ := n1
              obtain ⟨_, i2, a2, b2, f2, g2⟩ := n2
              obtain ⟨_, i3, a3, b3, f3, g3⟩ := n3
              obtain ⟨_, i4, a4, b4, f4, g4⟩ := n4
              clear lk
              have hno := F2.out i k (by omega) hlt2
              have hyes := Hpair.out.succ (k := k)
              by_cases ck : k = i + 1
              · have c1 : ((k : Int) = (i : Int) + 1) = True := eq_true (by omega)
                have c2 : ((k : Int) == (i : Int) + 1) = true := beq_iff_eq.2 (by omega)
                have hp : pairI (fun i => (x i, y i)) n i k = !(onSegI (x i, y i) (x (i + 1), y (i + 1)) (x (k + 1), y (k + 1)) || onSegI (x k, y k) (x (k + 1), y (k + 1)) (x i, y i)) := by
                  unfold pairI; rw [if_pos ck]
                rw [hp] at hno hyes
                have Hno := Lib.hid hno
                have Hyes := Lib.hid hyes
                clear hno hyes hp ck
                cases s1 : onSegI (x i, y i) (x (i + 1), y (i + 1)) (x (k + 1), y (k + 1))
                · cases s2 : onSegI (x k, y k) (x (k + 1), y (k + 1)) (x i, y i)
                  · have hP := Hyes.out (by rw [s1, s2]; rfl)
                    have HP := Lib.hid hP
                    clear hP Hno Hyes
                    go_wp2_with (first | (go_at_call 22; (first | (with_reducible refine (Ret.at_ext (onSeg_c va vb vd s1 _)).mono ?_) | (with_reducible refine (onSeg_c va vb vd s1 _).mono ?_)); rintro e w' ⟨rfl, u, rfl⟩) | (go_at_call 22; (first | (with_reducible refine (Ret.at_ext (onSeg_c vc vd va s2 _)).mono ?_) | (with_reducible refine (onSeg_c vc vd va s2 _).mono ?_)); rintro e w' ⟨rfl, u, rfl⟩))
                    go_roundw
                    case rel => exact ⟨k + 1, by omega, by omega, by go_num, (by repeat (first | (with_reducible exact Kp.refl _) | (with_reducible assumption) | (with_reducible apply Kp.ext) | (with_reducible apply Kp.alloc) | (with_reducible apply Kp.drew) | (with_reducible apply Kp.drewN) | (with_reducible refine Kp.setCell ?_ (by first | (dsimp only; omega) | (simp; omega) | (simp; done) | (simp [size_ext_eq]; omega)) _))), HP.out⟩
                    case measure => simp [intOf]; omega
                  · obtain rfl := Hno.out (by rw [s1, s2]; rfl)
                    go_wp2_with (first | (go_at_call 22; (first | (with_reducible refine (Ret.at_ext (onSeg_c va vb vd s1 _)).mono ?_) | (with_reducible refine (onSeg_c va vb vd s1 _).mono ?_)); rintro e w' ⟨rfl, u, rfl⟩) | (go_at_call 22; (first | (with_reducible refine (Ret.at_ext (onSeg_c vc vd va s2 _)).mono ?_) | (with_reducible refine (onSeg_c vc vd va s2 _).mono ?_)); rintro e w' ⟨rfl, u, rfl⟩))
                    go_ret
                    exact Ret.mk rfl (by repeat (first | (with_reducible exact Kp.refl _) | (with_reducible assumption) | (with_reducible apply Kp.ext) | (with_reducible apply Kp.alloc) | (with_reducible apply Kp.drew) | (with_reducible apply Kp.drewN) | (with_reducible refine Kp.setCell ?_ (by first | (dsimp only; omega) | (simp; omega) | (simp; done) | (simp [size_ext_eq]; omega)) _)))
                · obtain rfl := Hno.out (by rw [s1]; rfl)
                  go_wp2_with (first | (go_at_call 22; (first | (with_reducible refine (Ret.at_ext (onSeg_c va vb vd s1 _)).mono ?_) | (with_reducible refine (onSeg_c va vb vd s1 _).mono ?_)); rintro e w' ⟨rfl, u, rfl⟩))
                  go_ret
                  exact Ret.mk rfl (by repeat (first | (with_reducible exact Kp.refl _) | (with_reducible assumption) | (with_reducible apply Kp.ext) | (with_reducible apply Kp.alloc) | (with_reducible apply Kp.drew) | (with_reducible apply Kp.drewN) | (with_reducible refine Kp.setCell ?_ (by first | (dsimp only; omega) | (simp; omega) | (simp; done) | (simp [size_ext_eq]; omega)) _)))
              · have c1 : ((k : Int) = (i : Int) + 1) = False := eq_false (by omega)
                have c2 : ((k : Int) == (i : Int) + 1) = false := beq_eq_false_iff_ne.2 (by omega)
                by_cases ci : i = 0 ∧ k = n - 1
                · have c3 : ((i : Int) = 0) = True := eq_true (by omega)
                  have c4 : ((i : Int) == 0) = true := beq_iff_eq.2 (by omega)
                  have c5 : ((k : Int) = (n : Int) - 1) = True := eq_true (by omega)
                  have c6 : ((k : Int) == (n : Int) - 1) = true := beq_iff_eq.2 (by omega)
                  have hp : pairI (fun i => (x i, y i)) n i k = !(onSegI (x i, y i) (x (i + 1), y (i + 1)) (x k, y k) || onSegI (x k, y k) (x (k + 1), y (k + 1)) (x (i + 1), y (i + 1))) := by
                    unfold pairI; rw [if_neg ck, if_pos ci]
                  rw [hp] at hno hyes
                  have Hno := Lib.hid hno
                  have Hyes := Lib.hid hyes
                  clear hno hyes hp ck ci
                  cases s1 : onSegI (x i, y i) (x (i + 1), y (i + 1)) (x k, y k)
                  · cases s2 : onSegI (x k, y k) (x (k + 1), y (k + 1)) (x (i + 1), y (i + 1))
                    · have hP := Hyes.out (by rw [s1, s2]; rfl)
                      have HP := Lib.hid hP
                      clear hP Hno Hyes
                      go_wp2_with (first | (go_at_call 22; (first | (with_reducible refine (Ret.at_ext (onSeg_c va vb vc s1 _)).mono ?_) | (with_reducible refine (onSeg_c va vb vc s1 _).mono ?_)); rintro e w' ⟨rfl, u, rfl⟩) | (go_at_call 22; (first | (with_reducible refine (Ret.at_ext (onSeg_c vc vd vb s2 _)).mono ?_) | (with_reducible refine (onSeg_c vc vd vb s2 _).mono ?_)); rintro e w' ⟨rfl, u, rfl⟩))
                      go_roundw
                      case rel => exact ⟨k + 1, by omega, by omega, by go_num, (by repeat (first | (with_reducible exact Kp.refl _) | (with_reducible assumption) | (with_reducible apply Kp.ext) | (with_reducible apply Kp.alloc) | (with_reducible apply Kp.drew) | (with_reducible apply Kp.drewN) | (with_reducible refine Kp.setCell ?_ (by first | (dsimp only; omega) | (simp; omega) | (simp; done) | (simp [size_ext_eq]; omega)) _))), HP.out⟩
                      case measure => simp [intOf]; omega
                    · obtain rfl := Hno.out (by rw [s1, s2]; rfl)
                      go_wp2_with (first | (go_at_call 22; (first | (with_reducible refine (Ret.at_ext (onSeg_c va vb vc s1 _)).mono ?_) | (with_reducible refine (onSeg_c va vb vc s1 _).mono ?_)); rintro e w' ⟨rfl, u, rfl⟩) | (go_at_call 22; (first | (with_reducible refine (Ret.at_ext (onSeg_c vc vd vb s2 _)).mono ?_) | (with_reducible refine (onSeg_c vc vd vb s2 _).mono ?_)); rintro e w' ⟨rfl, u, rfl⟩))
                      go_ret
                      exact Ret.mk rfl (by repeat (first | (with_reducible exact Kp.refl _) | (with_reducible assumption) | (with_reducible apply Kp.ext) | (with_reducible apply Kp.alloc) | (with_reducible apply Kp.drew) | (with_reducible apply Kp.drewN) | (with_reducible refine Kp.setCell ?_ (by first | (dsimp only; omega) | (simp; omega) | (simp; done) | (simp [size_ext_eq]; omega)) _)))
                  · obtain rfl := Hno.out (by rw [s1]; rfl)
                    go_wp2_with (first | (go_at_call 22; (first | (with_reducible refine (Ret.at_ext (onSeg_c va vb vc s1 _)).mono ?_) | (with_reducible refine (onSeg_c va vb vc s1 _).mono ?_)); rintro e w' ⟨rfl, u, rfl⟩))
                    go_ret
                    exact Ret.mk rfl (by repeat (first | (with_reducible exact Kp.refl _) | (with_reducible assumption) | (with_reducible apply Kp.ext) | (with_reducible apply Kp.alloc) | (with_reducible apply Kp.drew) | (with_reducible apply Kp.drewN) | (with_reducible refine Kp.setCell ?_ (by first | (dsimp only; omega) | (simp; omega) | (simp; done) | (simp [size_ext_eq]; omega)) _)))
                · have hp : pairI (fun i => (x i, y i)) n i k = !(meetI (x i, y i) (x (i + 1), y (i + 1)) (x k, y k) (x (k + 1), y (k + 1))) := by
                    unfold pairI; rw [if_neg ck, if_neg ci]
                  rw [hp] at hno hyes
                  have Hno := Lib.hid hno
                  have Hyes := Lib.hid hyes
                  have tests : ¬ (i = 0) ∨ (((i : Int) == 0) = true ∧ ((k : Int) == (n : Int) - 1) = false) := by
                    by_cases z : i = 0
                    · exact .inr ⟨beq_iff_eq.2 (by omega), beq_eq_false_iff_ne.2 (by omega)⟩
                    · exact .inl z
                  clear hno hyes hp ck ci
                  cases s1 : meetI (x i, y i) (x (i + 1), y (i + 1)) (x k, y k) (x (k + 1), y (k + 1))
                  · have hP := Hyes.out (by rw [s1]; rfl)
                    have HP := Lib.hid hP
                    clear hP Hno Hyes
                    rcases tests with c3 | ⟨c3, c5⟩
                    all_goals
                      go_wp2_with (first | (go_at_call 23; (first | (with_reducible refine (Ret.at_ext (meet_c va vb vc vd s1 _)).mono ?_) | (with_reducible refine (meet_c va vb vc vd s1 _).mono ?_)); rintro e w' ⟨rfl, u, rfl⟩))
                      go_roundw
                      case rel => exact ⟨k + 1, by omega, by omega, by go_num, (by repeat (first | (with_reducible exact Kp.refl _) | (with_reducible assumption) | (with_reducible apply Kp.ext) | (with_reducible apply Kp.alloc) | (with_reducible apply Kp.drew) | (with_reducible apply Kp.drewN) | (with_reducible refine Kp.setCell ?_ (by first | (dsimp only; omega) | (simp; omega) | (simp; done) | (simp [size_ext_eq]; omega)) _))), HP.out⟩
                      case measure => simp [intOf]; omega
                  · obtain rfl := Hno.out (by rw [s1]; rfl)
                    rcases tests with c3 | ⟨c3, c5⟩
                    all_goals
                      go_wp2_with (first | (go_at_call 23; (first | (with_reducible refine (Ret.at_ext (meet_c va vb vc vd s1 _)).mono ?_) | (with_reducible refine (meet_c va vb vc vd s1 _).mono ?_)); rintro e w' ⟨rfl, u, rfl⟩))
                    all_goals (go_ret; exact Ret.mk rfl (by repeat (first | (with_reducible exact Kp.refl _) | (with_reducible assumption) | (with_reducible apply Kp.ext) | (with_reducible apply Kp.alloc) | (with_reducible apply Kp.drew) | (with_reducible apply Kp.drewN) | (with_reducible refine Kp.setCell ?_ (by first | (dsimp only; omega) | (simp; omega) | (simp; done) | (simp [size_ext_eq]; omega)) _))))
            · obtain rfl : k = n := by omega
              have hrow' := Hrow.out.succ Hsm.out Hpair.out
              have Hrow' := Lib.hid hrow'
              clear hrow'
              go_wp2_with fail
              go_roundw
              case rel => exact ⟨i + 1, by omega, by go_num, hkx, Hrow'.out⟩
              case measure => simp [intOf]; omega
        · obtain rfl := F1.out i hlt hsm
          rw [hsm] at heq
          go_wp2_with fail
          first | (with_reducible refine wp_region_ext_lit2 ?_ ?_ ?_) | refine wp_region_ext_lit ?_ ?_ ?_
          kernel_rfl
          kernel_rfl
          repeat (go_big_quiet_step (fail))
          refine wpQuiet_nil ?_
          rintro _ ⟨u, rfl⟩
          go_wp2_with fail
          go_ret
          exact Ret.mk rfl (by repeat (first | (with_reducible exact Kp.refl _) | (with_reducible assumption) | (with_reducible apply Kp.ext) | (with_reducible apply Kp.alloc) | (with_reducible apply Kp.drew) | (with_reducible apply Kp.drewN) | (with_reducible refine Kp.setCell ?_ (by first | (dsimp only; omega) | (simp; omega) | (simp; done) | (simp [size_ext_eq]; omega)) _)))
      · obtain rfl : i = n := by omega
        obtain rfl := F3.out Hrow.out
        go_wp2_with fail
        go_ret
        exact Ret.mk rfl (by repeat (first | (with_reducible exact Kp.refl _) | (with_reducible assumption) | (with_reducible apply Kp.ext) | (with_reducible apply Kp.alloc) | (with_reducible apply Kp.drew) | (with_reducible apply Kp.drewN) | (with_reducible refine Kp.setCell ?_ (by first | (dsimp only; omega) | (simp; omega) | (simp; done) | (simp [size_ext_eq]; omega)) _)))
end Go.Proofs.YtohidpmkoehmcaaGreatDoor
