/-
  A line of two points along an axis, told by so many points: orbresample.Resample.
-/
import Derived.Test.YtighomobiepknaaResF
import Derived.Test.YtighomobiepknaaRev
import Derived.Test.YtighomobiepknaaWt
import Derived.Test.YtighomobiepknaaApp
import Derived.OneCell
namespace Go.Proofs.Ytighomobiepknaa
open PubFl Go.RowKit

attribute [local go_sem] cell_ext frozen_ext ext_setCell cell_store size_ext_eq lt_p0 lt_p1 lt_p2 lt_p3 lt_p4 lt_p5 lt_p6 lt_p7 lt_p8 lt_p9 lt_p10 lt_p11 lt_p12 lt_p13 lt_p14 lt_p15 lt_p16 lt_p17 lt_p18 lt_p19 lt_p20 lt_p21 lt_p22 lt_p23 lt_p24 lt_p25 lt_p26 lt_p27 lt_p28 lt_p29 lt_p30 lt_p31 lt_p32 lt_q1 lt_q2 lt_q3 lt_q4 lt_q5 lt_q6 lt_q7 lt_q8 lt_q9 lt_q10 lt_q11 lt_q12 lt_q13 lt_q14 lt_q15 lt_q16 lt_q17 lt_q18 lt_q19 lt_q20 lt_q21 lt_q22 lt_q23 lt_q24 lt_q25 lt_q26 lt_q27 lt_q28 lt_q29 lt_q30 lt_q31 lt_q32 run_fop run_store_float
attribute [local go_sem high] cmp_eql cmp_neq cmp_lss cmp_leq cmp_gtr cmp_geq

theorem ptEqual_c (ax ay bx by' : Nat) (w : World) : Calls Try.prog 47 #[.agg #[.float .f64 ax, .float .f64 ay], .agg #[.float .f64 bx, .float .f64 by']] w (Ret w (.bool (eqF ax bx && eqF ay by'))) := by
  cases c1 : eqF ax bx
  · go_enter Try.func47, Try.ntmps47
    go_wp2_with fail
    go_ret
    exact Ret.mk rfl (by repeat (first | (with_reducible exact Kp.refl _) | (with_reducible assumption) | (with_reducible apply Kp.ext) | (with_reducible apply Kp.alloc) | (with_reducible apply Kp.drew) | (with_reducible apply Kp.drewN) | (with_reducible refine Kp.setCell ?_ (by first | (dsimp only; omega) | (simp; omega) | (simp; done) | (simp [size_ext_eq]; omega)) _)))
  · cases c2 : eqF ay by'
    · go_enter Try.func47, Try.ntmps47
      go_wp2_with fail
      go_ret
      exact Ret.mk rfl (by repeat (first | (with_reducible exact Kp.refl _) | (with_reducible assumption) | (with_reducible apply Kp.ext) | (with_reducible apply Kp.alloc) | (with_reducible apply Kp.drew) | (with_reducible apply Kp.drewN) | (with_reducible refine Kp.setCell ?_ (by first | (dsimp only; omega) | (simp; omega) | (simp; done) | (simp [size_ext_eq]; omega)) _)))
    · go_enter Try.func47, Try.ntmps47
      go_wp2_with fail
      go_ret
      exact Ret.mk rfl (by repeat (first | (with_reducible exact Kp.refl _) | (with_reducible assumption) | (with_reducible apply Kp.ext) | (with_reducible apply Kp.alloc) | (with_reducible apply Kp.drew) | (with_reducible apply Kp.drewN) | (with_reducible refine Kp.setCell ?_ (by first | (dsimp only; omega) | (simp; omega) | (simp; done) | (simp [size_ext_eq]; omega)) _)))

/-- the two points of a line differ: no edge case -/
theorem edge_c (b off cap x0 y0 x1 y1 : Nat) (total : Int) (w : World) (hb : b < w.heap.size) (hpt : PtsAt w b off [(x0, y0), (x1, y1)]) (he : (eqF x0 x0 && eqF y0 y0) = true) (hne : (eqF x0 x1 && eqF y0 y1) = false) :
    Calls Try.prog 40 #[.slice (some ⟨b, off, none⟩) 2 cap, .int .i64 total] w (Ret w (.tuple #[.slice (some ⟨b, off, none⟩) 2 cap, .bool false])) := by
  have c0 := fun w' => ptEqual_c x0 y0 x0 y0 w'
  have c1 := fun w' => ptEqual_c x0 y0 x1 y1 w'
  rw [he] at c0
  rw [hne] at c1
  have C0 := Lib.hid c0
  have C1 := Lib.hid c1
  have Hpt := Lib.hid hpt
  clear c0 c1 he hne hpt
  go_enter Try.func40, Try.ntmps40
  go_wp2_with fail
  go_loopw [6, 15] (fun s6 s15 wr => ∃ k : Nat, k < 2 ∧ s6 = .bool true ∧ s15 = .int .i64 k ∧ Kp w wr) (fun _ s15 _ => 2 - (intOf s15).toNat)
  case atStart => exact ⟨0, by omega, rfl, rfl, (by repeat (first | (with_reducible exact Kp.refl _) | (with_reducible assumption) | (with_reducible apply Kp.ext) | (with_reducible apply Kp.alloc) | (with_reducible apply Kp.drew) | (with_reducible apply Kp.drewN) | (with_reducible refine Kp.setCell ?_ (by first | (dsimp only; omega) | (simp; omega) | (simp; done) | (simp [size_ext_eq]; omega)) _)))⟩
  case round =>
    obtain ⟨k, hk, rfl, rfl, hkp⟩ := hrel
    have hbk : b < wr.heap.size := Nat.lt_of_lt_of_le hb hkp.size
    have P := Hpt.out.kp hb hkp
    obtain ⟨e0, e1⟩ := P 0 (by simp)
    obtain ⟨f0, f1⟩ := P 1 (by simp)
    simp only [Nat.zero_mul, Nat.add_zero, List.getElem_cons_zero, List.getElem_cons_succ, Nat.one_mul] at e0 e1 f0 f1
    clear P
    rcases (show k = 0 ∨ k = 1 by omega) with rfl | rfl
    · go_wp2_with fail
      first | (with_reducible refine wp_region_ext_lit2 ?_ ?_ ?_) | refine wp_region_ext_lit ?_ ?_ ?_
      kernel_rfl
      kernel_rfl
      repeat (go_big_quiet_step ((go_at_call 47; with_reducible exact Ret.quiet (C0.out _))))
      refine wpQuiet_nil ?_
      rintro _ ⟨u, rfl⟩
      go_wp2_with fail
      go_roundw
      case rel => exact ⟨1, by omega, rfl, rfl, (by repeat (first | (with_reducible exact Kp.refl _) | (with_reducible assumption) | (with_reducible apply Kp.ext) | (with_reducible apply Kp.alloc) | (with_reducible apply Kp.drew) | (with_reducible apply Kp.drewN) | (with_reducible refine Kp.setCell ?_ (by first | (dsimp only; omega) | (simp; omega) | (simp; done) | (simp [size_ext_eq]; omega)) _)))⟩
      case measure => simp [intOf]
    · go_wp2_with fail
      first | (with_reducible refine wp_region_ext_lit2 ?_ ?_ ?_) | refine wp_region_ext_lit ?_ ?_ ?_
      kernel_rfl
      kernel_rfl
      repeat (go_big_quiet_step ((go_at_call 47; with_reducible exact Ret.quiet (C1.out _))))
      refine wpQuiet_nil ?_
      rintro _ ⟨u, rfl⟩
      go_wp2_with fail
      go_ret2
      exact Ret.mk rfl (by repeat (first | (with_reducible exact Kp.refl _) | (with_reducible assumption) | (with_reducible apply Kp.ext) | (with_reducible apply Kp.alloc) | (with_reducible apply Kp.drew) | (with_reducible apply Kp.drewN) | (with_reducible refine Kp.setCell ?_ (by first | (dsimp only; omega) | (simp; omega) | (simp; done) | (simp [size_ext_eq]; omega)) _)))

theorem infoF : (Try.prog.info? 22).map (fun i => (i.zero, i.size, i.bytes)) = some (some (.float .f64 0), 1, 8) := by kernel_rfl

/-- what precomputeDistances gives: the length, and a list of it alone -/
def DistsRet (w : World) (d : Nat) (e : Ending) (w' : World) : Prop := ∃ D, e = .returned (.tuple #[.float .f64 d, .slice (some ⟨D, 0, none⟩) 1 1]) ∧ w.heap.size ≤ D ∧ D < w'.heap.size ∧ w'.cell? ⟨D, 0, none⟩ = some (.float .f64 d) ∧ Kp w w'
set_option maxHeartbeats 1000000 in
theorem dists_c (b off cap x0 y0 x1 y1 : Nat) (w : World) (hb : b < w.heap.size) (hpt : PtsAt w b off [(x0, y0), (x1, y1)]) (ok : DsqOk x0 y0 x1 y1) (so : SOk (dsqF x0 y0 x1 y1)) (oa : FOk .add 0 (sqrtF (dsqF x0 y0 x1 y1))) (ha : fop .add 0 (sqrtF (dsqF x0 y0 x1 y1)) = sqrtF (dsqF x0 y0 x1 y1)) :
    Calls Try.prog 41 #[.slice (some ⟨b, off, none⟩) 2 cap, .func (.func 25) #[] #[]] w (DistsRet w (sqrtF (dsqF x0 y0 x1 y1))) := by
  have hd := fun w' => distance_c x0 y0 x1 y1 ok so w'
  obtain ⟨d, hdd⟩ : ∃ d, sqrtF (dsqF x0 y0 x1 y1) = d := ⟨_, rfl⟩
  rw [hdd] at hd oa ha
  rw [hdd]
  have HD := Lib.hid hd
  have HA := Lib.hid ha
  obtain ⟨e0, e1⟩ := hpt 0 (by simp)
  obtain ⟨f0, f1⟩ := hpt 1 (by simp)
  simp only [Nat.zero_mul, Nat.add_zero, List.getElem_cons_zero, List.getElem_cons_succ, Nat.one_mul] at e0 e1 f0 f1
  clear hd ha hdd ok so hpt
  have hmk : ∀ w, (Instr.makeSlice 67 (.int .i64 1) (.int .i64 1)).run Try.prog w = .ok (.slice (some ⟨w.heap.size, 0, none⟩) 1 1) (w.alloc (.cells #[.float .f64 0] 22)) := fun _ => by kernel_rfl
  go_enter Try.func41, Try.ntmps41
  go_wp2_with fail
  go_loopw [6, 8] (fun s6 s8 wr => (s8 = .int .i64 0 ∧ s6 = .float .f64 0 ∧ wr = w.alloc (.cells #[.float .f64 0] 22)) ∨ (s8 = .int .i64 1 ∧ s6 = .float .f64 d ∧ Kp w wr ∧ w.heap.size < wr.heap.size ∧ wr.cell? ⟨w.heap.size, 0, none⟩ = some (.float .f64 d))) (fun _ s8 _ => 2 - (intOf s8).toNat)
  case atStart => exact .inl ⟨rfl, rfl, rfl⟩
  case round =>
    rcases hrel with ⟨rfl, rfl, rfl⟩ | ⟨rfl, rfl, hk, hsz, hcell⟩
    · go_wp2_with fail
      first | (with_reducible refine wp_region_ext_tail2 14 ?_ ?_ ?_) | refine wp_region_ext_tail 14 ?_ ?_ ?_
      kernel_rfl
      kernel_rfl
      simp only [List.take_succ_cons, List.take_zero, List.drop_succ_cons, List.drop_zero]
      repeat (go_big_quiet_step ((go_at_call 25; with_reducible exact Ret.quiet (HD.out _))))
      refine wpQuiet_nil ?_
      rintro _ ⟨u, rfl⟩
      go_wp2_with fail
      go_roundw
      case rel => exact .inr ⟨rfl, by rw [HA.out], (by repeat (first | (with_reducible exact Kp.refl _) | (with_reducible assumption) | (with_reducible apply Kp.ext) | (with_reducible apply Kp.alloc) | (with_reducible apply Kp.drew) | (with_reducible apply Kp.drewN) | (with_reducible refine Kp.setCell ?_ (by first | (dsimp only; omega) | (simp; omega) | (simp; done) | (simp [size_ext_eq]; omega)) _))), by simp [size_ext_eq]; omega, by simp [cell_ext]⟩
      case measure => simp [intOf]
    · go_wp2_with fail
      go_ret2
      exact ⟨_, rfl, Nat.le_refl _, hsz, hcell, hk⟩

theorem cellsOf_set (ps : List (Nat × Nat)) (i x y : Nat) (h : i < ps.length) : ((cellsOf ps).set (i * 2) (.float .f64 x)).set (i * 2 + 1) (.float .f64 y) = cellsOf (ps.set i (x, y)) := by
  induction ps generalizing i with
  | nil => simp at h
  | cons p ps ih =>
    have e : ∀ q qs, cellsOf (q :: qs) = .float .f64 q.1 :: .float .f64 q.2 :: cellsOf qs := fun _ _ => rfl
    cases i with
    | zero => simp [e]
    | succ i =>
      have := ih i (by simpa using h)
      rw [show (i + 1) * 2 = i * 2 + 1 + 1 by omega, List.set_cons_succ, e, e]
      simp only [List.set_cons_succ]
      rw [this]
theorem ownsRow_store {w : World} {base g n cap : Nat} {e : TypeId} {ps : List (Nat × Nat)} (h : w.ownsRow base e 2 (.slice (some ⟨g, 0, none⟩) n cap) n (cellsOf ps)) (i x y : Nat) (hi : i < ps.length) :
    ((w.setCell ⟨g, i * 2, none⟩ (.float .f64 x)).setCell ⟨g, i * 2 + 1, none⟩ (.float .f64 y)).ownsRow base e 2 (.slice (some ⟨g, 0, none⟩) n cap) n (cellsOf (ps.set i (x, y))) := by
  rw [← cellsOf_set ps i x y hi]
  exact ((h.stored (i * 2) _).1.stored (i * 2 + 1) _).1
theorem made_row (w : World) (base n x y : Nat) (e : TypeId) (hb : base ≤ w.heap.size) (hm : n ≤ maxLen) (h1 : 1 ≤ n) :
    (w.alloc (.cells (((madeCells #[.float .f64 0, .float .f64 0] (n * 2)).setIfInBounds 0 (.float .f64 x)).setIfInBounds 1 (.float .f64 y)) e)).ownsRow base e 2 (.slice (some ⟨w.heap.size, 0, none⟩) 1 n) 1 (cellsOf [(x, y)]) := by
  refine ⟨rfl, .inr ⟨w.heap.size, n, _, rfl, hb, heap_alloc_new w _, h1, hm, by simp [size_madeCells], ?_⟩⟩
  apply List.ext_getElem?
  intro j
  rw [List.getElem?_take]
  by_cases h : j < 1 * 2
  · rw [if_pos h]
    rcases (show j = 0 ∨ j = 1 by omega) with rfl | rfl <;> simp [madeCells, cellsOf, List.getElem?_set]
    all_goals omega
  · rw [if_neg h]
    exact (List.getElem?_eq_none (by simp [cellsOf]; omega)).symm
/-- a block of two points -/
structure Seg (w : World) (G a b c d : Nat) : Prop where
  hi : G < w.heap.size
  c0 : w.cell? ⟨G, 0, none⟩ = some (.float .f64 a)
  c1 : w.cell? ⟨G, 1, none⟩ = some (.float .f64 b)
  c2 : w.cell? ⟨G, 2, none⟩ = some (.float .f64 c)
  c3 : w.cell? ⟨G, 3, none⟩ = some (.float .f64 d)
  fr : ∀ i, w.frozen? ⟨G, i, none⟩ = false
theorem Seg.grown {w w' : World} {G a b c d : Nat} {row : Option Nat} (h : Seg w G a b c d) (hg : w.grownBy w' row) (hne : row ≠ some G) : Seg w' G a b c d :=
  ⟨Nat.lt_of_lt_of_le h.hi hg.size, (grown_cell hg h.hi hne).trans h.c0, (grown_cell hg h.hi hne).trans h.c1, (grown_cell hg h.hi hne).trans h.c2, (grown_cell hg h.hi hne).trans h.c3, fun i => (grown_frozen hg h.hi hne).trans (h.fr i)⟩
theorem Seg.alloc {w : World} {G a b c d : Nat} (h : Seg w G a b c d) (o : Obj) : Seg (w.alloc o) G a b c d := h.grown (row := none) (World.grownBy_alloc w o none) (by simp)
def segStore (w : World) (G a b c d : Nat) : World := (((w.setCell ⟨G, 0, none⟩ (.float .f64 a)).setCell ⟨G, 1, none⟩ (.float .f64 b)).setCell ⟨G, 2, none⟩ (.float .f64 c)).setCell ⟨G, 3, none⟩ (.float .f64 d)
theorem Seg.store {w : World} {G a b c d : Nat} (h : Seg w G a b c d) (a' b' c' d' : Nat) : Seg (segStore w G a' b' c' d') G a' b' c' d' := by
  obtain ⟨hi, c0, c1, c2, c3, fr⟩ := h
  unfold segStore
  have e : ∀ (w : World) (i j : Nat) (v : Value), i ≠ j → (w.setCell ⟨G, i, none⟩ v).cell? ⟨G, j, none⟩ = w.cell? ⟨G, j, none⟩ := fun w i j v hij => World.cell?_setCell_other _ _ _ _ (by intro e; cases e; exact hij rfl)
  have s : ∀ (w : World) (i : Nat) (v x : Value), w.cell? ⟨G, i, none⟩ = some x → (w.setCell ⟨G, i, none⟩ v).cell? ⟨G, i, none⟩ = some v := fun w i v x h => World.cell?_setCell_same _ _ _ h
  refine ⟨by simpa using hi, ?_, ?_, ?_, ?_, fun i => by simpa using fr i⟩
  · rw [e _ 3 0 _ (by decide), e _ 2 0 _ (by decide), e _ 1 0 _ (by decide)]; exact s _ _ _ _ c0
  · rw [e _ 3 1 _ (by decide), e _ 2 1 _ (by decide)]; exact s _ _ _ (.float .f64 b) (by rw [e _ 0 1 _ (by decide)]; exact c1)
  · rw [e _ 3 2 _ (by decide)]; exact s _ _ _ (.float .f64 c) (by rw [e _ 1 2 _ (by decide), e _ 0 2 _ (by decide)]; exact c2)
  · exact s _ _ _ (.float .f64 d) (by rw [e _ 2 3 _ (by decide), e _ 1 3 _ (by decide), e _ 0 3 _ (by decide)]; exact c3)
theorem segStore_kp {a w : World} (h : Kp a w) {G : Nat} (hG : a.heap.size ≤ G) (x0 y0 x1 y1 : Nat) : Kp a (segStore w G x0 y0 x1 y1) :=
  Kp.setCell (Kp.setCell (Kp.setCell (Kp.setCell h (p := ⟨G, 0, none⟩) hG _) (p := ⟨G, 1, none⟩) hG _) (p := ⟨G, 2, none⟩) hG _) (p := ⟨G, 3, none⟩) hG _
theorem segStore_own {w : World} {base : Nat} {e : TypeId} {size g n cap : Nat} {xs : List Value} (h : w.ownsRow base e size (.slice (some ⟨g, 0, none⟩) n cap) n xs) {G : Nat} (hG : g ≠ G) (x0 y0 x1 y1 : Nat) : (segStore w G x0 y0 x1 y1).ownsRow base e size (.slice (some ⟨g, 0, none⟩) n cap) n xs := by
  have k : ∀ i, Value.ownBlock (.slice (some ⟨g, 0, none⟩) n cap) ≠ some (⟨G, i, none⟩ : Addr).block := fun i e => hG (by simpa [Value.ownBlock] using e)
  exact ownsRow_setCell_other (ownsRow_setCell_other (ownsRow_setCell_other (ownsRow_setCell_other h (k 0) _) (k 1) _) (k 2) _) (k 3) _
theorem made_cell (w : World) (n j : Nat) (e : TypeId) (hj : j < n) : (w.alloc (.cells (madeCells #[.float .f64 0, .float .f64 0] n) e)).cell? ⟨w.heap.size, j, none⟩ = some (.float .f64 0) := by
  rw [cell_of_row _ _ j _ e (0, 0) (heap_alloc_new w _)]
  rcases (show j % 2 = 0 ∨ j % 2 = 1 by omega) with h | h <;> simp [madeCells, hj, h]
theorem made_cell1 (w : World) (n : Nat) (e : TypeId) (v : Value) (hj : 1 < n) : (w.alloc (.cells ((madeCells #[.float .f64 0, .float .f64 0] n).setIfInBounds 0 v) e)).cell? ⟨w.heap.size, 1, none⟩ = some (.float .f64 0) := by
  rw [cell_of_row _ _ 1 _ e (0, 0) (heap_alloc_new w _)]
  simp [madeCells, hj, Array.getElem?_setIfInBounds]
set_option maxRecDepth 20000 in
set_option maxHeartbeats 2000000 in
theorem resamp_c (b off cap D dcap x0 y0 x1 y1 d p : Nat) (L a b1 : Int) (w : World) (hb : b < w.heap.size) (hpt : PtsAt w b off [(x0, y0), (x1, y1)]) (hD : D < w.heap.size) (hcell : w.cell? ⟨D, 0, none⟩ = some (.float .f64 d))
    (hd : IsV d L) (hL : 1 ≤ L) (hL2 : L ≤ 500) (hp : 1 ≤ p) (hp2 : p ≤ 100) (h0 : IsV x0 a) (h1 : IsV x1 ((a + L : Int) : Rat)) (ha : -1000 ≤ a ∧ a ≤ 1000) (hb1 : -1000 ≤ b1 ∧ b1 ≤ 1000) (k0 : IsV y0 b1) (k1 : IsV y1 b1) :
    Calls Try.prog 42 #[.slice (some ⟨b, off, none⟩) 2 cap, .slice (some ⟨D, 0, none⟩) 1 dcap, .float .f64 d, .int .i64 ((p : Int) + 1)] w (RetO w 63 ((resL x0 y0 x1 y1 d p (p + 1)).set p (x1, y1))) := by
  obtain ⟨i0, hi, hz0, hz1, hz2⟩ := info_parts infoOPt
  obtain ⟨oa, ea⟩ := add_zero_word hd hL hL2
  have hpt0 := hpt
  obtain ⟨e0, e1⟩ := hpt 0 (by simp)
  obtain ⟨f0, f1⟩ := hpt 1 (by simp)
  simp only [Nat.zero_mul, Nat.add_zero, List.getElem_cons_zero, List.getElem_cons_succ, Nat.one_mul] at e0 e1 f0 f1
  have cok := fun s h => cur_ok hd hL hL2 hp hp2 s h
  obtain ⟨_, _, oq, _⟩ := cok 1 (by omega)
  have hle : ∀ s, 1 ≤ s → s ≤ p → leF (curW d p s) d = true ∧ ResOk (curW d p s) d x0 x1 y0 y1 := fun s h2 h3 => by
    obtain ⟨q, r, hq, v, hw, q0, q1, r1⟩ := cur_v hd hL hL2 hp hp2 s h2 h3
    refine ⟨by rw [leF_isV v hd]; exact decide_eq_true r1, (res_pt v hw q0 q1 hd hL hL2 h0 h1 ha hb1 k0 k1).1⟩
  have hgt : leF (curW d p (p + 1)) d = false := by
    obtain ⟨r, v, hr⟩ := cur_last hd hL hL2 hp hp2
    rw [leF_isV v hd]
    exact decide_eq_false (by grind)
  have hmk : ∀ w, (Instr.makeSlice 43 (.int .i64 1) (.int .i64 ((p : Int) + 1))).run Try.prog w = .ok (.slice (some ⟨w.heap.size, 0, none⟩) 1 (p + 1)) (w.alloc (.cells (madeCells #[.float .f64 0, .float .f64 0] ((p + 1) * 2)) 63)) := fun w => by
    have := run_make (P := Try.prog) w 43 63 i0 (.agg #[.float .f64 0, .float .f64 0]) Try.underlying43 hi hz0 .i64 .i64 1 ((p : Int) + 1) (by omega) (by omega) (by rw [hz2]; omega) (by omega)
    rw [this, hz1]
    rfl
  have hfl : ∀ n : Int, floatOfInt .f64 n = fl n := fun _ => rfl
  have hm0 := fun w => made_cell w ((p + 1) * 2) 0 63 (by omega)
  have hm1 := fun w v => made_cell1 w ((p + 1) * 2) 63 v (by omega)
  have hmf := fun w c i => frozen_new w c 63 i
  have Hle := Lib.hid hle
  have Hgt := Lib.hid hgt
  have Cok := Lib.hid cok
  have Ea := Lib.hid ea
  clear hle hgt cok hd h0 h1 k0 k1 hpt hpt0 ea
  go_enter Try.func42, Try.ntmps42
  have hz : w.heap.size ≠ w.heap.size + 1 := by omega
  go_wp2_with fail
  go_loopw [9, 10, 11, 12, 14] (fun s9 s10 s11 s12 s14 wr => ∃ s : Nat, s9 = .slice (some ⟨w.heap.size, 0, none⟩) s (p + 1) ∧ s10 = .int .i64 s ∧ s12 = .float .f64 (curW d p s) ∧ Kp w wr ∧ (∃ A B C E, Seg wr (w.heap.size + 1) A B C E) ∧
    wr.ownsRow w.heap.size 63 2 (.slice (some ⟨w.heap.size, 0, none⟩) s (p + 1)) s (cellsOf (resL x0 y0 x1 y1 d p s)) ∧ (s = 1 ∧ s14 = .int .i64 0 ∧ s11 = .float .f64 0 ∨ s = p + 1 ∧ s14 = .int .i64 1)) (fun _ _ _ _ s14 _ => 2 - (intOf s14).toNat)
  case atStart =>
    refine ⟨1, rfl, rfl, by unfold curW; rw [if_pos rfl], (by repeat (first | (with_reducible exact Kp.refl _) | (with_reducible assumption) | (with_reducible apply Kp.ext) | (with_reducible apply Kp.alloc) | (with_reducible apply Kp.drew) | (with_reducible apply Kp.drewN) | (with_reducible refine Kp.setCell ?_ (by first | (dsimp only; omega) | (simp; omega) | (simp; done) | (simp [size_ext_eq]; omega)) _))), ⟨0, 0, 0, 0, by simp, by simp, by simp, by simp, by simp, fun i => by simp⟩, ?_, .inl ⟨rfl, rfl, rfl⟩⟩
    exact (made_row w w.heap.size (p + 1) x0 y0 _ (Nat.le_refl _) (by unfold maxLen; omega) (by omega)).alloc _
  case round =>
    obtain ⟨s, rfl, rfl, rfl, hkp, ⟨A, B, C, E, hseg⟩, hown, hst⟩ := hrel
    have hbk : b < wr.heap.size := Nat.lt_of_lt_of_le hb hkp.size
    have hDk : D < wr.heap.size := Nat.lt_of_lt_of_le hD hkp.size
    have g0 := Kp.cell hkp e0 hb
    have g1 := Kp.cell hkp e1 hb
    have g2 := Kp.cell hkp f0 hb
    have g3 := Kp.cell hkp f1 hb
    have gD := Kp.cell hkp hcell hD
    have hne1 : b ≠ w.heap.size + 1 := by omega
    have hne2 : D ≠ w.heap.size + 1 := by omega
    rcases hst with ⟨rfl, rfl, rfl⟩ | ⟨rfl, rfl⟩
    · obtain ⟨i1, c0, c1, c2, c3, fr⟩ := id hseg
      go_wp2_with fail
      rw [Ea.out]
      have hks := segStore_kp hkp (G := w.heap.size + 1) (by omega) x0 y0 x1 y1
      have hss := hseg.store x0 y0 x1 y1
      have hos := segStore_own hown (G := w.heap.size + 1) (by omega) x0 y0 x1 y1
      obtain ⟨wo, hwo⟩ : ∃ wo, wo = segStore wr (w.heap.size + 1) x0 y0 x1 y1 := ⟨_, rfl⟩
      rw [← hwo] at hks hss hos
      unfold segStore at hwo
      rw [← hwo]
      clear hwo hseg hown hkp c0 c1 c2 c3 fr g0 g1 g2 g3 gD hbk hDk i1
      go_loopw [9, 10, 12] (fun s9 s10 s12 wx => ∃ s : Nat, 1 ≤ s ∧ s ≤ p + 1 ∧ s9 = .slice (some ⟨w.heap.size, 0, none⟩) s (p + 1) ∧ s10 = .int .i64 s ∧ s12 = .float .f64 (curW d p s) ∧ Kp w wx ∧ Seg wx (w.heap.size + 1) x0 y0 x1 y1 ∧
        wx.ownsRow w.heap.size 63 2 (.slice (some ⟨w.heap.size, 0, none⟩) s (p + 1)) s (cellsOf (resL x0 y0 x1 y1 d p s))) (fun _ s10 _ _ => p + 1 - (intOf s10).toNat)
      case atStart => exact ⟨1, by omega, by omega, rfl, rfl, rfl, hks, hss, hos⟩
      case round =>
        obtain ⟨s, hs1, hs2, rfl, rfl, rfl, hkx, hsx, hox⟩ := hrel
        clear hks hss hos
        obtain ⟨i1, c0, c1, c2, c3, fr⟩ := id hsx
        by_cases hlt : s ≤ p
        · obtain ⟨hl, o1, o2, o3, o4, o5, o6, o7, o8⟩ := Hle.out s hs1 hlt
          obtain ⟨q1, q2, _, _⟩ := Cok.out (s + 1) (by omega)
          rw [show ((s + 1 : Nat) : Int) = (s : Int) + 1 by omega] at q1 q2
          have hnext : curW d p (s + 1) = if s + 1 = p then d else fop .quo (fop .mul d (fl ((s : Int) + 1))) (fl p) := by
            unfold curW
            rw [if_neg (by omega), show ((s + 1 : Nat) : Int) = (s : Int) + 1 by omega]
          have hsucc := resL_succ x0 y0 x1 y1 d p s hs1
          obtain ⟨ax, hax⟩ : ∃ ax, resP (curW d p s) d x0 x1 = ax := ⟨_, rfl⟩
          obtain ⟨ay, hay⟩ : ∃ ay, resP (curW d p s) d y0 y1 = ay := ⟨_, rfl⟩
          rw [hax, hay] at hsucc
          unfold resP at hax hay
          have hcs : cellsOf (resL x0 y0 x1 y1 d p (s + 1)) = cellsOf (resL x0 y0 x1 y1 d p s) ++ [.float .f64 ax, .float .f64 ay] := by rw [hsucc, cellsOf_snoc]
          have Hcs := Lib.hid hcs
          clear hcs hsucc
          by_cases hlast : s + 1 = p
          · have hl1 : ((s : Int) + 1 = (p : Int)) = True := eq_true (by omega)
            have hl2 : ((s : Int) + 1 == (p : Int)) = true := beq_iff_eq.2 (by omega)
            rw [if_pos hlast] at hnext
            have Hnext := Lib.hid hnext
            clear hnext hlast
            go_wp2_with (at_builtin; refine wpList_append_fit _ rfl (.tmp 64) (.tmp 92) 43 rfl w.heap.size 63 i0 2 Try.underlying43 hi hz1 _ s (p + 1) _ rfl (hox.alloc _) ⟨wr.heap.size, 0, none⟩ 1 1 [.float .f64 ax, .float .f64 ay] rfl rfl ?c1 ?c2 ?c3 ?_)
            case c1 => exact new_cells2 _ _ _ _
            case c2 => exact one_cells2 _ _
            case c3 => omega
            intro w1 hown1 hgrow1
            have hk1 : Kp w w1 := Below.grown (hkx.alloc _) hgrow1 (by simp; omega) (fun q hq => by cases hq; exact Nat.le_refl _)
            rw [← Hcs.out] at hown1
            have hs1' := (hsx.alloc _).grown hgrow1 (by simp)
            go_wp2_with fail
            go_roundw
            case rel => exact ⟨s + 1, by omega, by omega, rfl, by go_num, by rw [Hnext.out], hk1, hs1', hown1⟩
            case measure => simp [intOf]; omega
          · have hl1 : ((s : Int) + 1 = (p : Int)) = False := eq_false (by omega)
            have hl2 : ((s : Int) + 1 == (p : Int)) = false := beq_eq_false_iff_ne.2 (by omega)
            rw [if_neg hlast] at hnext
            have Hnext := Lib.hid hnext
            clear hnext
            go_wp2_with (at_builtin; refine wpList_append_fit _ rfl (.tmp 64) (.tmp 92) 43 rfl w.heap.size 63 i0 2 Try.underlying43 hi hz1 _ s (p + 1) _ rfl (hox.alloc _) ⟨wr.heap.size, 0, none⟩ 1 1 [.float .f64 ax, .float .f64 ay] rfl rfl ?d1 ?d2 ?d3 ?_)
            case d1 => exact new_cells2 _ _ _ _
            case d2 => exact one_cells2 _ _
            case d3 => omega
            intro w1 hown1 hgrow1
            have hk1 : Kp w w1 := Below.grown (hkx.alloc _) hgrow1 (by simp; omega) (fun q hq => by cases hq; exact Nat.le_refl _)
            rw [← Hcs.out] at hown1
            have hs1' := (hsx.alloc _).grown hgrow1 (by simp)
            go_wp2_with fail
            go_roundw
            case rel => exact ⟨s + 1, by omega, by omega, rfl, by go_num, by rw [Hnext.out], hk1, hs1', hown1⟩
            case measure => simp [intOf]; omega
        · obtain rfl : s = p + 1 := by omega
          have hg := Hgt.out
          go_wp2_with fail
          go_roundw
          case rel => exact ⟨p + 1, rfl, rfl, rfl, hkx, ⟨_, _, _, _, hsx⟩, hox, .inr ⟨rfl, rfl⟩⟩
          case measure => simp [intOf]
    · have hl0 := resL_length x0 y0 x1 y1 d p (p + 1) (by omega)
      obtain ⟨r0, r1⟩ := cellsOf_get (resL x0 y0 x1 y1 d p (p + 1)) p (by omega)
      have hc0 := (hown.cellAt (p * 2) (by omega)).trans r0
      have hc1 := (hown.cellAt (p * 2 + 1) (by omega)).trans r1
      have hfr := hown.frozenAt
      have hst := ownsRow_store hown p x1 y1 (by omega)
      have hkq := Kp.setCell (Kp.setCell hkp (p := ⟨w.heap.size, p * 2, none⟩) (Nat.le_refl _) (.float .f64 x1)) (p := ⟨w.heap.size, p * 2 + 1, none⟩) (Nat.le_refl _) (.float .f64 y1)
      have hp1 : ((p : Int) + 1 = 1) = False := eq_false (by omega)
      have hp3 : (p : Int) < ((p + 1 : Nat) : Int) := by omega
      clear r0 r1
      go_wp2_with fail
      go_ret
      exact RetO.mk rfl hkq (by unfold PtsNew; rw [List.length_set, hl0]; exact hst)

/-- the points of the line told anew -/
def resOut (x0 y0 x1 y1 p : Nat) : List (Nat × Nat) := (resL x0 y0 x1 y1 (sqrtF (dsqF x0 y0 x1 y1)) p (p + 1)).set p (x1, y1)
theorem resOut_length (x0 y0 x1 y1 p : Nat) : (resOut x0 y0 x1 y1 p).length = p + 1 := by unfold resOut; rw [List.length_set, resL_length _ _ _ _ _ _ _ (by omega)]
set_option maxHeartbeats 1000000 in
theorem resample_c (b off cap x0 y0 x1 y1 p : Nat) (L a b1 : Int) (w : World) (hb : b < w.heap.size) (hpt : PtsAt w b off [(x0, y0), (x1, y1)]) (h : AxisEnds x0 y0 x1 y1 a b1 L) (hp : 1 ≤ p) (hp2 : p ≤ 100) :
    Calls Try.prog 23 #[.slice (some ⟨b, off, none⟩) 2 cap, .func (.func 25) #[] #[], .int .i64 ((p : Int) + 1)] w (RetO w 63 (resOut x0 y0 x1 y1 p)) := by
  obtain ⟨ok, so, vd⟩ := h.dist
  obtain ⟨se, sn⟩ := h.same
  obtain ⟨h0, k0, h1, k1, ha, hb1, l1, l2⟩ := h
  obtain ⟨oa, ea⟩ := add_zero_word vd l1 l2
  have E1 := Lib.hid (fun w' (hk : Kp w w') => edge_c b off cap x0 y0 x1 y1 ((p : Int) + 1) w' (Nat.lt_of_lt_of_le hb hk.size) (hpt.kp hb hk) se sn)
  have E2 := Lib.hid (fun w' (hk : Kp w w') => dists_c b off cap x0 y0 x1 y1 w' (Nat.lt_of_lt_of_le hb hk.size) (hpt.kp hb hk) ok so oa ea)
  have E3 := Lib.hid (fun w' D (hk : Kp w w') hD hc => resamp_c b off cap D 1 x0 y0 x1 y1 _ p L a b1 w' (Nat.lt_of_lt_of_le hb hk.size) (hpt.kp hb hk) hD hc vd l1 l2 hp hp2 h0 h1 ha hb1 k0 k1)
  unfold resOut
  obtain ⟨d, hd⟩ : ∃ d, sqrtF (dsqF x0 y0 x1 y1) = d := ⟨_, rfl⟩
  rw [hd] at E2 E3 ⊢
  have hp0 : ((p : Int) + 1 ≤ 0) = False := eq_false (by omega)
  clear ok so vd se sn h0 k0 h1 k1 oa ea hpt hd
  go_enter Try.func23, Try.ntmps23
  go_wp2_with (first | (go_at_call 40; (first | (with_reducible refine (Ret.at_ext (E1.out _ (by repeat (first | (with_reducible exact Kp.refl _) | (with_reducible assumption) | (with_reducible apply Kp.ext) | (with_reducible apply Kp.alloc) | (with_reducible apply Kp.drew) | (with_reducible apply Kp.drewN) | (with_reducible refine Kp.setCell ?_ (by first | (dsimp only; omega) | (simp; omega) | (simp; done) | (simp [size_ext_eq]; omega)) _))))).mono ?_) | (with_reducible refine (E1.out _ (by repeat (first | (with_reducible exact Kp.refl _) | (with_reducible assumption) | (with_reducible apply Kp.ext) | (with_reducible apply Kp.alloc) | (with_reducible apply Kp.drew) | (with_reducible apply Kp.drewN) | (with_reducible refine Kp.setCell ?_ (by first | (dsimp only; omega) | (simp; omega) | (simp; done) | (simp [size_ext_eq]; omega)) _)))).mono ?_)); rintro e w' ⟨rfl, u, rfl⟩) | (go_at_call 41; (with_reducible refine (E2.out _ (by repeat (first | (with_reducible exact Kp.refl _) | (with_reducible assumption) | (with_reducible apply Kp.ext) | (with_reducible apply Kp.alloc) | (with_reducible apply Kp.drew) | (with_reducible apply Kp.drewN) | (with_reducible refine Kp.setCell ?_ (by first | (dsimp only; omega) | (simp; omega) | (simp; done) | (simp [size_ext_eq]; omega)) _)))).mono ?_); rintro e w1 ⟨D, rfl, hD1, hD2, hc, hk1⟩) | (go_at_call 42; (with_reducible refine (E3.out _ _ (Kp.trans (by repeat (first | (with_reducible exact Kp.refl _) | (with_reducible assumption) | (with_reducible apply Kp.ext) | (with_reducible apply Kp.alloc) | (with_reducible apply Kp.drew) | (with_reducible apply Kp.drewN) | (with_reducible refine Kp.setCell ?_ (by first | (dsimp only; omega) | (simp; omega) | (simp; done) | (simp [size_ext_eq]; omega)) _))) hk1) hD2 hc).mono ?_); rintro e w2 ⟨v, u2, rfl, hu, hpn⟩))
  have hk3 : Kp w w1 := Kp.trans (by repeat (first | (with_reducible exact Kp.refl _) | (with_reducible assumption) | (with_reducible apply Kp.ext) | (with_reducible apply Kp.alloc) | (with_reducible apply Kp.drew) | (with_reducible apply Kp.drewN) | (with_reducible refine Kp.setCell ?_ (by first | (dsimp only; omega) | (simp; omega) | (simp; done) | (simp [size_ext_eq]; omega)) _))) hk1
  have hk2 : Kp w w2 := by rw [hu]; exact hk3.ext u2
  rw [← hu]
  clear hu
  go_ret
  exact RetO.mk rfl hk2 (hpn.wide hk3.size)
set_option maxHeartbeats 1000000 in
theorem resampled_c (b off cap x0 y0 x1 y1 p : Nat) (L a b1 : Int) (w : World) (hb : b < w.heap.size) (hpt : PtsAt w b off [(x0, y0), (x1, y1)]) (h : AxisEnds x0 y0 x1 y1 a b1 L) (hp : 1 ≤ p) (hp2 : p ≤ 100) :
    Calls Try.prog 8 #[.slice (some ⟨b, off, none⟩) 2 cap, .int .i64 ((p : Int) + 1)] w (RetO w 24 (resOut x0 y0 x1 y1 p)) := by
  have p1 := fun w' (hk : Kp w w') => pointsOf_c (some ⟨b, off, none⟩) cap [(x0, y0), (x1, y1)] (by simp) w' (.inr ⟨b, off, rfl, Nat.lt_of_lt_of_le hb hk.size, hpt.kp hb hk⟩)
  simp only [List.length_cons, List.length_nil, Nat.zero_add, Nat.reduceAdd] at p1
  have P1 := Lib.hid p1
  have P2 := Lib.hid (fun w' g cap' hg hp' => resample_c g 0 cap' x0 y0 x1 y1 p L a b1 w' hg hp' h hp hp2)
  have P3 := Lib.hid (fun w' a' cap' hs => listOf_c a' cap' (resOut x0 y0 x1 y1 p) (by rw [resOut_length]; omega) w' hs)
  clear h hpt p1
  go_enter Try.func8, Try.ntmps8
  go_wp2_with (go_at_call 24; (with_reducible refine (P1.out _ (by repeat (first | (with_reducible exact Kp.refl _) | (with_reducible assumption) | (with_reducible apply Kp.ext) | (with_reducible apply Kp.alloc) | (with_reducible apply Kp.drew) | (with_reducible apply Kp.drewN) | (with_reducible refine Kp.setCell ?_ (by first | (dsimp only; omega) | (simp; omega) | (simp; done) | (simp [size_ext_eq]; omega)) _)))).mono ?_); rintro e w1 ⟨v, u, rfl, hu, hpn⟩)
  have hk1 : Kp w w1 := by rw [hu]; exact (by repeat (first | (with_reducible exact Kp.refl _) | (with_reducible assumption) | (with_reducible apply Kp.ext) | (with_reducible apply Kp.alloc) | (with_reducible apply Kp.drew) | (with_reducible apply Kp.drewN) | (with_reducible refine Kp.setCell ?_ (by first | (dsimp only; omega) | (simp; omega) | (simp; done) | (simp [size_ext_eq]; omega)) _)))
  rw [← hu]
  clear hu
  obtain ⟨g, cap', rfl, _, hg2, _, _, hq⟩ := hpn.form (by simp)
  simp only [List.length_cons, List.length_nil, Nat.zero_add, Nat.reduceAdd]
  clear hpn
  go_wp2_with (go_at_call 23; (with_reducible refine (P2.out _ _ _ hg2 hq).mono ?_); rintro e w2 ⟨v, u, rfl, hu, hpn⟩)
  have hk2 : Kp w w2 := by rw [hu]; exact hk1.ext _
  rw [← hu]
  clear hu
  obtain ⟨a2, cap2, rfl, hin2⟩ := hpn.in
  clear hpn
  go_wp2_with (go_at_call 22; (with_reducible refine (P3.out _ _ _ hin2).mono ?_); rintro e w3 ⟨v, u, rfl, hu, hpn⟩)
  have hk3 : Kp w w3 := by rw [hu]; exact hk2.ext _
  rw [← hu]
  clear hu
  go_ret
  exact RetO.mk rfl hk3 (hpn.wide hk2.size)
end Go.Proofs.Ytighomobiepknaa
