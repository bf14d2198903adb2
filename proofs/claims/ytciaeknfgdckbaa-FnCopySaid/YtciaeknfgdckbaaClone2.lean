/-
  Copies of collections and of any geometry.
-/
import Derived.Test.YtciaeknfgdckbaaClone
namespace Go.Proofs.Ytciaeknfgdckbaa
open PubFl Go.RowKit

attribute [local go_sem] cell_ext frozen_ext ext_setCell cell_store size_ext_eq lt_p0 lt_p1 lt_p2 lt_p3 lt_p4 lt_p5 lt_p6 lt_p7 lt_p8 lt_p9 lt_p10 lt_p11 lt_p12 lt_p13 lt_p14 lt_p15 lt_p16 lt_p17 lt_p18 lt_p19 lt_p20 lt_p21 lt_p22 lt_p23 lt_p24 lt_p25 lt_p26 lt_p27 lt_p28 lt_p29 lt_p30 lt_p31 lt_p32 lt_q1 lt_q2 lt_q3 lt_q4 lt_q5 lt_q6 lt_q7 lt_q8 lt_q9 lt_q10 lt_q11 lt_q12 lt_q13 lt_q14 lt_q15 lt_q16 lt_q17 lt_q18 lt_q19 lt_q20 lt_q21 lt_q22 lt_q23 lt_q24 lt_q25 lt_q26 lt_q27 lt_q28 lt_q29 lt_q30 lt_q31 lt_q32 run_fop run_store_float
attribute [local go_sem high] cmp_eql cmp_neq cmp_lss cmp_leq cmp_gtr cmp_geq

theorem heap_set {w : World} {g i : Nat} {cur : Array Value} {T : TypeId} {v : Value} (h : w.heap[g]? = some (.cells cur T (0, 0))) : (w.setCell ⟨g, i, none⟩ v).heap[g]? = some (.cells (cur.setIfInBounds i v) T (0, 0)) := by
  unfold World.setCell
  simp [Array.getElem?_modify, h]
theorem cell_row {w : World} {g i : Nat} {cur : Array Value} {T : TypeId} (h : w.heap[g]? = some (.cells cur T (0, 0))) : w.cell? ⟨g, i, none⟩ = cur[i]? := by
  unfold World.cell?
  simp only [h]
  simp
theorem lt_heap {w : World} {g : Nat} {x : Obj} (h : w.heap[g]? = some x) : g < w.heap.size := by
  rcases Nat.lt_or_ge g w.heap.size with c | c
  · exact c
  · rw [Array.getElem?_eq_none c] at h; cases h
/-- a row of n values that a function fills one by one, in block G -/
structure RowsC (E : Nat → Nat → Nat → World → Value → Prop) (T : TypeId) (G n : Nat) (wr : World) (k : Nat) : Prop where
  blk : ∃ cur, wr.heap[G]? = some (.cells cur T (0, 0)) ∧ cur.size = n ∧ ∀ i, i < k → ∃ x lo hi, cur[i]? = some x ∧ E i lo hi wr x ∧ G < lo ∧ hi ≤ wr.heap.size
theorem RowsC.store {E : Nat → Nat → Nat → World → Value → Prop} (hE : KeepE E) {T : TypeId} {G n n1 n2 k : Nat} {wr w2 : World} {x : Value} (h : RowsC E T G n wr k) (hk : Kp wr w2) (hx : E k n1 n2 w2 x) (h1 : G < n1) (h2 : n2 ≤ w2.heap.size) (hkn : k < n) :
    RowsC E T G n (w2.setCell ⟨G, k, none⟩ x) (k + 1) := by
  obtain ⟨cur, hb, hs, hel⟩ := h
  have hG := lt_heap hb
  have hb2 : w2.heap[G]? = some (.cells cur T (0, 0)) := (hk.block G hG).trans hb
  have hsz := hk.size
  refine ⟨_, heap_set hb2, by simpa using hs, fun i hi => ?_⟩
  by_cases c : i = k
  · subst c
    exact ⟨x, n1, n2, by rw [Array.getElem?_setIfInBounds]; simp; omega, hE _ _ _ _ _ _ (agree_set h1) (by simp) hx, h1, by simpa using h2⟩
  · obtain ⟨y, lo, hi', hy, he, q1, q2⟩ := hel i (by omega)
    refine ⟨y, lo, hi', by rw [Array.getElem?_setIfInBounds, if_neg (by omega)]; exact hy, ?_, q1, by simp; omega⟩
    exact hE _ _ _ _ _ _ ((Agree.of_kp hk q2).trans (agree_set q1)) (by simp; omega) he
theorem RowsC.done {E : Nat → Nat → Nat → World → Value → Prop} {T : TypeId} {L G n : Nat} {w : World} (h : RowsC E T G n w n) (hL : L ≤ G) : RowB E L w.heap.size w (.slice (some ⟨G, 0, none⟩) n n) n := by
  obtain ⟨cur, hb, hs, hel⟩ := h
  have hG := lt_heap hb
  refine ⟨G, n, rfl, hL, hG, hG, Nat.le_refl _, fun j => row_frozen hb, fun i hi => ?_⟩
  obtain ⟨x, lo, hi', hx, he, q1, q2⟩ := hel i hi
  exact ⟨x, lo, hi', (cell_row hb).trans hx, he, by omega, q2, q2, .inl q1⟩
theorem run_store_iface {P : Program} {w : World} {a : Addr} {m : Mode} (t : TypeId) (v : Value) : (store a (.iface t v) m).run P w = stored P w a (.iface t v) m := run_store P w a _ m rfl

set_option maxRecDepth 20000 in
set_option maxHeartbeats 1000000 in
theorem cloneCol_c (d : Nat) (qs : List Sh) (lo hi : Nat) (v : Value) (hn : qs.length ≤ 40) (ih : ∀ i, i < qs.length → ∀ lo hi x w, GeoB d lo hi w x (qs.getD i dsh) → Calls Try.prog 28 #[x] w (RetB w fun lo hi w v => GeoB d lo hi w v (qs.getD i dsh)))
    (w : World) (hs : RowB (fun i l h w x => GeoB d l h w x (qs.getD i dsh)) lo hi w v qs.length) :
    Calls Try.prog 47 #[v] w (RetB w fun lo hi w v => RowB (fun i l h w x => GeoB d l h w x (qs.getD i dsh)) lo hi w v qs.length) := by
  obtain ⟨i0, hi, hz0, hz1, hz2⟩ := info_parts infoGeom
  obtain ⟨g, cap, rfl, _, _, hg, _, _, hel⟩ := hs
  have hmk : ∀ w, (Instr.makeSlice 69 (.int .i64 (qs.length : Int)) (.int .i64 (qs.length : Int))).run Try.prog w = .ok (.slice (some ⟨w.heap.size, 0, none⟩) qs.length qs.length) (w.alloc (.cells (madeCells #[.nilIface] (qs.length * 1)) 43)) := fun w => by
    have := run_make (P := Try.prog) w 69 43 i0 .nilIface Try.underlying69 hi hz0 .i64 .i64 (qs.length : Int) (qs.length : Int) (by omega) (by omega) (by rw [hz2]; omega) (by omega)
    rw [this, hz1]
    rfl
  have hnil := run_eqnil 69 _ Try.underlying69
  have hsi := fun (w : World) (a : Addr) (m : Mode) (t : TypeId) (v : Value) => run_store_iface (P := Try.prog) (w := w) (a := a) (m := m) t v
  have Hel := Lib.hid hel
  have Ih := Lib.hid ih
  clear hel ih
  go_enter Try.func47, Try.ntmps47
  go_wp2_with fail
  go_loopw [13] (fun s13 wr => ∃ (k : Nat), k ≤ qs.length ∧ s13 = .int .i64 k ∧ Kp w wr ∧ RowsC (fun i l h w x => GeoB d l h w x (qs.getD i dsh)) 43 w.heap.size qs.length wr k) (fun s13 _ => qs.length - (intOf s13).toNat)
  case atStart =>
    exact ⟨0, by omega, rfl, (by repeat (first | (with_reducible exact Kp.refl _) | (with_reducible assumption) | (with_reducible apply Kp.ext) | (with_reducible apply Kp.alloc) | (with_reducible apply Kp.drew) | (with_reducible apply Kp.drewN) | (with_reducible refine Kp.setCell ?_ (by first | (dsimp only; omega) | (simp; omega) | (simp; done) | (simp [size_ext_eq]; omega)) _))), ⟨_, heap_alloc_new w _, by simp [size_madeCells], fun i hi => by omega⟩⟩
  case round =>
    obtain ⟨k, hkn, rfl, hkp, hrow⟩ := hrel
    by_cases hlt : k < qs.length
    · obtain ⟨x, l, h, hc, hx, _, _, hh, _⟩ := Hel.out k hlt
      have hc' := Kp.cell hkp hc hg
      have hp := Lib.hid (fun w' (hk : Kp wr w') => Ih.out k hlt l h x w' (GeoB.keep hx (Agree.of_kp (hkp.trans hk) hh) (Kp.size (hkp.trans hk))))
      have hgr : g < wr.heap.size := Nat.lt_of_lt_of_le hg hkp.size
      have hsz := hkp.size
      obtain ⟨tx, ux, rfl⟩ := GeoB.ifc hx
      obtain ⟨cur, hb, hs, hrest⟩ := id hrow.blk
      have hG : w.heap.size < wr.heap.size := lt_heap hb
      have hcell : wr.cell? ⟨w.heap.size, k, none⟩ = some (cur[k]'(by omega)) := by rw [cell_row hb, Array.getElem?_eq_getElem (by omega)]
      have hfz : wr.frozen? ⟨w.heap.size, k, none⟩ = false := row_frozen hb
      have hidx : (k : Int) < (qs.length : Int) := by omega
      have Hrow := Lib.hid hrow
      generalize cur[k]'(by omega) = y at hcell
      clear hx hc hrow hrest hb hs cur
      go_wp2_with (go_at_call 28; (with_reducible refine (hp.out _ (by repeat (first | (with_reducible exact Kp.refl _) | (with_reducible assumption) | (with_reducible apply Kp.ext) | (with_reducible apply Kp.alloc) | (with_reducible apply Kp.drew) | (with_reducible apply Kp.drewN) | (with_reducible refine Kp.setCell ?_ (by first | (dsimp only; omega) | (simp; omega) | (simp; done) | (simp [size_ext_eq]; omega)) _)))).mono ?_); rintro e w1 ⟨v, u, rfl, rfl, hpb⟩; obtain ⟨t2, u2, hv2⟩ := GeoB.ifc hpb; subst hv2; have Hpb := Lib.hid hpb; clear hpb)
      have HR := Lib.hid (RowsC.store (keep_geo d qs) Hrow.out (show Kp wr (ext wr u) from (by repeat (first | (with_reducible exact Kp.refl _) | (with_reducible assumption) | (with_reducible apply Kp.ext) | (with_reducible apply Kp.alloc) | (with_reducible apply Kp.drew) | (with_reducible apply Kp.drewN) | (with_reducible refine Kp.setCell ?_ (by first | (dsimp only; omega) | (simp; omega) | (simp; done) | (simp [size_ext_eq]; omega)) _)))) Hpb.out hG (Nat.le_refl _) hlt)
      go_roundw
      case rel => exact ⟨k + 1, by omega, by go_num, (by repeat (first | (with_reducible exact Kp.refl _) | (with_reducible assumption) | (with_reducible apply Kp.ext) | (with_reducible apply Kp.alloc) | (with_reducible apply Kp.drew) | (with_reducible apply Kp.drewN) | (with_reducible refine Kp.setCell ?_ (by first | (dsimp only; omega) | (simp; omega) | (simp; done) | (simp [size_ext_eq]; omega)) _))), by first | exact HR.out | (have h := HR.out; rw [ext_setCell hG] at h; exact h)⟩
      case measure => simp [intOf]; omega
    · obtain rfl : k = qs.length := by omega
      have Hr := Lib.hid (hrow.done (Nat.le_refl _))
      clear hrow
      go_wp2_with fail
      go_ret
      exact ⟨_, _, rfl, ext_of hkp, Hr.out⟩


set_option maxRecDepth 100000 in
set_option maxHeartbeats 1000000 in
theorem cl_LineString (a : Addr) (n c : Nat) (G : Nat → Nat → World → Value → Prop) (w : World) (hG : ∀ lo lo' hi w v, lo ≤ lo' → G lo' hi w v → G lo hi w v) (h : ∀ w', Kp w w' → Calls Try.prog 42 #[.slice (some a) n c] w' (RetB w' G)) :
    Calls Try.prog 28 #[.iface 59 (.slice (some a) n c)] w (RetB w fun lo hi w v => ∃ u, v = .iface 59 u ∧ G lo hi w u) := by
  have H := Lib.hid h
  have HG := Lib.hid hG
  clear h hG
  have t_Point := tas_LineString_Point
  have t_MultiPoint := tas_LineString_MultiPoint
  have t_LineString := tas_LineString_LineString
  have hnil := run_eqnil 59 _ Try.underlying59
  go_enter Try.func28, Try.ntmps28
  go_wp2_with (go_at_call 42; (with_reducible refine (H.out _ (by repeat (first | (with_reducible exact Kp.refl _) | (with_reducible assumption) | (with_reducible apply Kp.ext) | (with_reducible apply Kp.alloc) | (with_reducible apply Kp.drew) | (with_reducible apply Kp.drewN) | (with_reducible refine Kp.setCell ?_ (by first | (dsimp only; omega) | (simp; omega) | (simp; done) | (simp [size_ext_eq]; omega)) _)))).mono ?_); rintro e w1 ⟨v, u, rfl, rfl, hpb⟩; have Hpb := Lib.hid hpb; clear hpb)
  go_ret
  exact ⟨_, _, rfl, ext_of (show Kp w _ from (by repeat (first | (with_reducible exact Kp.refl _) | (with_reducible assumption) | (with_reducible apply Kp.ext) | (with_reducible apply Kp.alloc) | (with_reducible apply Kp.drew) | (with_reducible apply Kp.drewN) | (with_reducible refine Kp.setCell ?_ (by first | (dsimp only; omega) | (simp; omega) | (simp; done) | (simp [size_ext_eq]; omega)) _)))), _, rfl, HG.out _ _ _ _ _ (by simp [size_ext_eq]; first | done | omega) Hpb.out⟩


set_option maxRecDepth 100000 in
set_option maxHeartbeats 1000000 in
theorem cl_Polygon (a : Addr) (n c : Nat) (G : Nat → Nat → World → Value → Prop) (w : World) (hG : ∀ lo lo' hi w v, lo ≤ lo' → G lo' hi w v → G lo hi w v) (h : ∀ w', Kp w w' → Calls Try.prog 45 #[.slice (some a) n c] w' (RetB w' G)) :
    Calls Try.prog 28 #[.iface 61 (.slice (some a) n c)] w (RetB w fun lo hi w v => ∃ u, v = .iface 61 u ∧ G lo hi w u) := by
  have H := Lib.hid h
  have HG := Lib.hid hG
  clear h hG
  have t_Point := tas_Polygon_Point
  have t_MultiPoint := tas_Polygon_MultiPoint
  have t_LineString := tas_Polygon_LineString
  have t_MultiLineString := tas_Polygon_MultiLineString
  have t_Ring := tas_Polygon_Ring
  have t_Polygon := tas_Polygon_Polygon
  have hnil := run_eqnil 61 _ Try.underlying61
  go_enter Try.func28, Try.ntmps28
  go_wp2_with (go_at_call 45; (with_reducible refine (H.out _ (by repeat (first | (with_reducible exact Kp.refl _) | (with_reducible assumption) | (with_reducible apply Kp.ext) | (with_reducible apply Kp.alloc) | (with_reducible apply Kp.drew) | (with_reducible apply Kp.drewN) | (with_reducible refine Kp.setCell ?_ (by first | (dsimp only; omega) | (simp; omega) | (simp; done) | (simp [size_ext_eq]; omega)) _)))).mono ?_); rintro e w1 ⟨v, u, rfl, rfl, hpb⟩; have Hpb := Lib.hid hpb; clear hpb)
  go_ret
  exact ⟨_, _, rfl, ext_of (show Kp w _ from (by repeat (first | (with_reducible exact Kp.refl _) | (with_reducible assumption) | (with_reducible apply Kp.ext) | (with_reducible apply Kp.alloc) | (with_reducible apply Kp.drew) | (with_reducible apply Kp.drewN) | (with_reducible refine Kp.setCell ?_ (by first | (dsimp only; omega) | (simp; omega) | (simp; done) | (simp [size_ext_eq]; omega)) _)))), _, rfl, HG.out _ _ _ _ _ (by simp [size_ext_eq]; first | done | omega) Hpb.out⟩


set_option maxRecDepth 100000 in
set_option maxHeartbeats 1000000 in
theorem cl_MultiPoint (a : Addr) (n c : Nat) (G : Nat → Nat → World → Value → Prop) (w : World) (hG : ∀ lo lo' hi w v, lo ≤ lo' → G lo' hi w v → G lo hi w v) (h : ∀ w', Kp w w' → Calls Try.prog 41 #[.slice (some a) n c] w' (RetB w' G)) :
    Calls Try.prog 28 #[.iface 63 (.slice (some a) n c)] w (RetB w fun lo hi w v => ∃ u, v = .iface 63 u ∧ G lo hi w u) := by
  have H := Lib.hid h
  have HG := Lib.hid hG
  clear h hG
  have t_Point := tas_MultiPoint_Point
  have t_MultiPoint := tas_MultiPoint_MultiPoint
  have hnil := run_eqnil 63 _ Try.underlying63
  go_enter Try.func28, Try.ntmps28
  go_wp2_with (go_at_call 41; (with_reducible refine (H.out _ (by repeat (first | (with_reducible exact Kp.refl _) | (with_reducible assumption) | (with_reducible apply Kp.ext) | (with_reducible apply Kp.alloc) | (with_reducible apply Kp.drew) | (with_reducible apply Kp.drewN) | (with_reducible refine Kp.setCell ?_ (by first | (dsimp only; omega) | (simp; omega) | (simp; done) | (simp [size_ext_eq]; omega)) _)))).mono ?_); rintro e w1 ⟨v, u, rfl, rfl, hpb⟩; have Hpb := Lib.hid hpb; clear hpb)
  go_ret
  exact ⟨_, _, rfl, ext_of (show Kp w _ from (by repeat (first | (with_reducible exact Kp.refl _) | (with_reducible assumption) | (with_reducible apply Kp.ext) | (with_reducible apply Kp.alloc) | (with_reducible apply Kp.drew) | (with_reducible apply Kp.drewN) | (with_reducible refine Kp.setCell ?_ (by first | (dsimp only; omega) | (simp; omega) | (simp; done) | (simp [size_ext_eq]; omega)) _)))), _, rfl, HG.out _ _ _ _ _ (by simp [size_ext_eq]; first | done | omega) Hpb.out⟩


set_option maxRecDepth 100000 in
set_option maxHeartbeats 1000000 in
theorem cl_MultiLineString (a : Addr) (n c : Nat) (G : Nat → Nat → World → Value → Prop) (w : World) (hG : ∀ lo lo' hi w v, lo ≤ lo' → G lo' hi w v → G lo hi w v) (h : ∀ w', Kp w w' → Calls Try.prog 43 #[.slice (some a) n c] w' (RetB w' G)) :
    Calls Try.prog 28 #[.iface 65 (.slice (some a) n c)] w (RetB w fun lo hi w v => ∃ u, v = .iface 65 u ∧ G lo hi w u) := by
  have H := Lib.hid h
  have HG := Lib.hid hG
  clear h hG
  have t_Point := tas_MultiLineString_Point
  have t_MultiPoint := tas_MultiLineString_MultiPoint
  have t_LineString := tas_MultiLineString_LineString
  have t_MultiLineString := tas_MultiLineString_MultiLineString
  have hnil := run_eqnil 65 _ Try.underlying65
  go_enter Try.func28, Try.ntmps28
  go_wp2_with (go_at_call 43; (with_reducible refine (H.out _ (by repeat (first | (with_reducible exact Kp.refl _) | (with_reducible assumption) | (with_reducible apply Kp.ext) | (with_reducible apply Kp.alloc) | (with_reducible apply Kp.drew) | (with_reducible apply Kp.drewN) | (with_reducible refine Kp.setCell ?_ (by first | (dsimp only; omega) | (simp; omega) | (simp; done) | (simp [size_ext_eq]; omega)) _)))).mono ?_); rintro e w1 ⟨v, u, rfl, rfl, hpb⟩; have Hpb := Lib.hid hpb; clear hpb)
  go_ret
  exact ⟨_, _, rfl, ext_of (show Kp w _ from (by repeat (first | (with_reducible exact Kp.refl _) | (with_reducible assumption) | (with_reducible apply Kp.ext) | (with_reducible apply Kp.alloc) | (with_reducible apply Kp.drew) | (with_reducible apply Kp.drewN) | (with_reducible refine Kp.setCell ?_ (by first | (dsimp only; omega) | (simp; omega) | (simp; done) | (simp [size_ext_eq]; omega)) _)))), _, rfl, HG.out _ _ _ _ _ (by simp [size_ext_eq]; first | done | omega) Hpb.out⟩


set_option maxRecDepth 100000 in
set_option maxHeartbeats 1000000 in
theorem cl_MultiPolygon (a : Addr) (n c : Nat) (G : Nat → Nat → World → Value → Prop) (w : World) (hG : ∀ lo lo' hi w v, lo ≤ lo' → G lo' hi w v → G lo hi w v) (h : ∀ w', Kp w w' → Calls Try.prog 46 #[.slice (some a) n c] w' (RetB w' G)) :
    Calls Try.prog 28 #[.iface 67 (.slice (some a) n c)] w (RetB w fun lo hi w v => ∃ u, v = .iface 67 u ∧ G lo hi w u) := by
  have H := Lib.hid h
  have HG := Lib.hid hG
  clear h hG
  have t_Point := tas_MultiPolygon_Point
  have t_MultiPoint := tas_MultiPolygon_MultiPoint
  have t_LineString := tas_MultiPolygon_LineString
  have t_MultiLineString := tas_MultiPolygon_MultiLineString
  have t_Ring := tas_MultiPolygon_Ring
  have t_Polygon := tas_MultiPolygon_Polygon
  have t_MultiPolygon := tas_MultiPolygon_MultiPolygon
  have hnil := run_eqnil 67 _ Try.underlying67
  go_enter Try.func28, Try.ntmps28
  go_wp2_with (go_at_call 46; (with_reducible refine (H.out _ (by repeat (first | (with_reducible exact Kp.refl _) | (with_reducible assumption) | (with_reducible apply Kp.ext) | (with_reducible apply Kp.alloc) | (with_reducible apply Kp.drew) | (with_reducible apply Kp.drewN) | (with_reducible refine Kp.setCell ?_ (by first | (dsimp only; omega) | (simp; omega) | (simp; done) | (simp [size_ext_eq]; omega)) _)))).mono ?_); rintro e w1 ⟨v, u, rfl, rfl, hpb⟩; have Hpb := Lib.hid hpb; clear hpb)
  go_ret
  exact ⟨_, _, rfl, ext_of (show Kp w _ from (by repeat (first | (with_reducible exact Kp.refl _) | (with_reducible assumption) | (with_reducible apply Kp.ext) | (with_reducible apply Kp.alloc) | (with_reducible apply Kp.drew) | (with_reducible apply Kp.drewN) | (with_reducible refine Kp.setCell ?_ (by first | (dsimp only; omega) | (simp; omega) | (simp; done) | (simp [size_ext_eq]; omega)) _)))), _, rfl, HG.out _ _ _ _ _ (by simp [size_ext_eq]; first | done | omega) Hpb.out⟩


set_option maxRecDepth 100000 in
set_option maxHeartbeats 1000000 in
theorem cl_Collection (a : Addr) (n c : Nat) (G : Nat → Nat → World → Value → Prop) (w : World) (hG : ∀ lo lo' hi w v, lo ≤ lo' → G lo' hi w v → G lo hi w v) (h : ∀ w', Kp w w' → Calls Try.prog 47 #[.slice (some a) n c] w' (RetB w' G)) :
    Calls Try.prog 28 #[.iface 69 (.slice (some a) n c)] w (RetB w fun lo hi w v => ∃ u, v = .iface 69 u ∧ G lo hi w u) := by
  have H := Lib.hid h
  have HG := Lib.hid hG
  clear h hG
  have t_Point := tas_Collection_Point
  have t_MultiPoint := tas_Collection_MultiPoint
  have t_LineString := tas_Collection_LineString
  have t_MultiLineString := tas_Collection_MultiLineString
  have t_Ring := tas_Collection_Ring
  have t_Polygon := tas_Collection_Polygon
  have t_MultiPolygon := tas_Collection_MultiPolygon
  have t_Collection := tas_Collection_Collection
  have hnil := run_eqnil 69 _ Try.underlying69
  go_enter Try.func28, Try.ntmps28
  go_wp2_with (go_at_call 47; (with_reducible refine (H.out _ (by repeat (first | (with_reducible exact Kp.refl _) | (with_reducible assumption) | (with_reducible apply Kp.ext) | (with_reducible apply Kp.alloc) | (with_reducible apply Kp.drew) | (with_reducible apply Kp.drewN) | (with_reducible refine Kp.setCell ?_ (by first | (dsimp only; omega) | (simp; omega) | (simp; done) | (simp [size_ext_eq]; omega)) _)))).mono ?_); rintro e w1 ⟨v, u, rfl, rfl, hpb⟩; have Hpb := Lib.hid hpb; clear hpb)
  go_ret
  exact ⟨_, _, rfl, ext_of (show Kp w _ from (by repeat (first | (with_reducible exact Kp.refl _) | (with_reducible assumption) | (with_reducible apply Kp.ext) | (with_reducible apply Kp.alloc) | (with_reducible apply Kp.drew) | (with_reducible apply Kp.drewN) | (with_reducible refine Kp.setCell ?_ (by first | (dsimp only; omega) | (simp; omega) | (simp; done) | (simp [size_ext_eq]; omega)) _)))), _, rfl, HG.out _ _ _ _ _ (by simp [size_ext_eq]; first | done | omega) Hpb.out⟩


set_option maxRecDepth 100000 in
set_option maxHeartbeats 1000000 in
theorem cl_Point (x y : Nat) (w : World) :
    Calls Try.prog 28 #[.iface 46 (.agg #[.float .f64 x, .float .f64 y])] w (RetB w fun _ _ _ v => v = .iface 46 (.agg #[.float .f64 x, .float .f64 y])) := by
  have t_Point := tas_Point_Point
  go_enter Try.func28, Try.ntmps28
  go_wp2_with fail
  go_ret
  exact ⟨_, _, rfl, ext_of (show Kp w _ from (by repeat (first | (with_reducible exact Kp.refl _) | (with_reducible assumption) | (with_reducible apply Kp.ext) | (with_reducible apply Kp.alloc) | (with_reducible apply Kp.drew) | (with_reducible apply Kp.drewN) | (with_reducible refine Kp.setCell ?_ (by first | (dsimp only; omega) | (simp; omega) | (simp; done) | (simp [size_ext_eq]; omega)) _)))), rfl⟩

theorem Calls.retB {f : FuncId} {args : Array Value} {w : World} {G H : Nat → Nat → World → Value → Prop} (h : Calls Try.prog f args w (RetB w G)) (k : ∀ w' v, G w.heap.size w'.heap.size w' v → H w.heap.size w'.heap.size w' v) : Calls Try.prog f args w (RetB w H) :=
  h.mono fun _ _ ⟨v, u, he, hw, hg⟩ => ⟨v, u, he, hw, k _ _ hg⟩
theorem clone_c : ∀ (d : Nat) (s : Sh) (lo hi : Nat) (v : Value) (w : World), GeoB d lo hi w v s → cntOk d s = true → Small d s → Calls Try.prog 28 #[v] w (RetB w fun lo hi w v => GeoB d lo hi w v s)
  | 0, _, _, _, _, _, h, _, _ => h.elim
  | d + 1, s, lo, hi, v, w, hg, hok, hsm => by
    have hpa := (cntOk_parts hok).2.1
    obtain ⟨_, _, n1, n2⟩ := shHead_spec (cntOk_parts hok).1
    obtain ⟨sl, sp⟩ := hsm
    rcases hg with ⟨hk, x, y, h1, h2, rfl⟩ | ⟨hk, ps, u, h1, h2, rfl, h3⟩ | ⟨hk, u, h1, rfl, h2⟩ | ⟨hk, ps, u, h1, h2, rfl, h3⟩ | ⟨hk, u, h1, rfl, h2⟩ | ⟨hk, u, h1, rfl, h2⟩ | ⟨hk, u, h1, rfl, h2⟩
    · exact Calls.retB (cl_Point x y w) fun _ _ h => .inl ⟨hk, x, y, h1, h2, h⟩
    · obtain ⟨g, cap, rfl, _⟩ := id h3
      exact Calls.retB (cl_LineString _ _ _ (fun lo hi w v => PtsB lo hi w v ps) w (fun _ _ _ _ _ l p => p.mono l (Nat.le_refl _)) fun w' k => cloneLineString_c lo hi _ ps (sl _ (by rw [h1]; simp)) w' (h3.kp k)) fun _ _ ⟨u, e, p⟩ => .inr (.inl ⟨hk, ps, u, h1, h2, e, p⟩)
    · obtain ⟨g, cap, rfl, _⟩ := id h2
      exact Calls.retB (cl_Polygon _ _ _ (fun lo hi w v => ListsB s.lists lo hi w v) w (fun _ _ _ _ _ l p => RowB.mono p l (Nat.le_refl _)) fun w' k => clonePg_c lo hi _ s.lists n1 sl w' (RowB.kp (keep_list _) h2 k)) fun _ _ ⟨u, e, p⟩ => .inr (.inr (.inl ⟨hk, u, h1, e, p⟩))
    · obtain ⟨g, cap, rfl, _⟩ := id h3
      exact Calls.retB (cl_MultiPoint _ _ _ (fun lo hi w v => PtsB lo hi w v ps) w (fun _ _ _ _ _ l p => p.mono l (Nat.le_refl _)) fun w' k => cloneMP_c lo hi _ ps (sl _ (by rw [h1]; simp)) w' (h3.kp k)) fun _ _ ⟨u, e, p⟩ => .inr (.inr (.inr (.inl ⟨hk, ps, u, h1, h2, e, p⟩)))
    · obtain ⟨g, cap, rfl, _⟩ := id h2
      exact Calls.retB (cl_MultiLineString _ _ _ (fun lo hi w v => ListsB s.lists lo hi w v) w (fun _ _ _ _ _ l p => RowB.mono p l (Nat.le_refl _)) fun w' k => cloneMLS_c lo hi _ s.lists n1 sl w' (RowB.kp (keep_list _) h2 k)) fun _ _ ⟨u, e, p⟩ => .inr (.inr (.inr (.inr (.inl ⟨hk, u, h1, e, p⟩))))
    · obtain ⟨g, cap, rfl, _⟩ := id h2
      have hq : ∀ p ∈ s.parts, p.lists.length ≤ 40 ∧ ∀ l ∈ p.lists, l.length ≤ 300 := fun p hp => by
        obtain ⟨e, rfl, _, _, l40⟩ := poly_part' hk (hpa p hp)
        exact ⟨l40, (sp p hp).1⟩
      exact Calls.retB (cl_MultiPolygon _ _ _ (fun lo hi w v => RowB (PolyE s.parts) lo hi w v s.parts.length) w (fun _ _ _ _ _ l p => RowB.mono p l (Nat.le_refl _)) fun w' k => cloneMPg_c lo hi _ s.parts n2 hq w' (RowB.kp (keep_poly _) h2 k)) fun _ _ ⟨u, e, p⟩ => .inr (.inr (.inr (.inr (.inr (.inl ⟨hk, u, h1, e, p⟩)))))
    · obtain ⟨g, cap, rfl, _⟩ := id h2
      exact Calls.retB (cl_Collection _ _ _ (fun lo hi w v => RowB (fun i l h w x => GeoB d l h w x (s.parts.getD i dsh)) lo hi w v s.parts.length) w (fun _ _ _ _ _ l p => RowB.mono p l (Nat.le_refl _)) fun w' k => cloneCol_c d s.parts lo hi _ n2 (fun i hi lo hi' x w g => clone_c d _ lo hi' x w g (hpa _ (mem_getD' hi)).1 (sp _ (mem_getD' hi))) w' (RowB.kp (keep_geo d s.parts) h2 k)) fun _ _ ⟨u, e, p⟩ => .inr (.inr (.inr (.inr (.inr (.inr ⟨hk, u, h1, e, p⟩)))))
end Go.Proofs.Ytciaeknfgdckbaa
