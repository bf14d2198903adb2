/-
  impl.shapeOf of points, lines and polygons.
  impl.shapeOf of lists of lines.
  impl.shapeOf of polygons.
  impl.shapeOf of collections.
  impl.shapeOf of any geometry.
-/
import Derived.Test.YtobdohhabgnjiaaGreatDoorPgSh
import Derived.Test.YtobdohhabgnjiaaGreatDoorOrbEq2
set_option linter.all false
namespace Go.Proofs.YtobdohhabgnjiaaGreatDoor
open PubFl Go.RowKit

attribute [local go_sem] cell_ext frozen_ext ext_setCell cell_store size_ext_eq lt_p0 lt_p1 lt_p2 lt_p3 lt_p4 lt_p5 lt_p6 lt_p7 lt_p8 lt_p9 lt_p10 lt_p11 lt_p12 lt_p13 lt_p14 lt_p15 lt_p16 lt_p17 lt_p18 lt_p19 lt_p20 lt_p21 lt_p22 lt_p23 lt_p24 lt_p25 lt_p26 lt_p27 lt_p28 lt_p29 lt_p30 lt_p31 lt_p32 lt_q1 lt_q2 lt_q3 lt_q4 lt_q5 lt_q6 lt_q7 lt_q8 lt_q9 lt_q10 lt_q11 lt_q12 lt_q13 lt_q14 lt_q15 lt_q16 lt_q17 lt_q18 lt_q19 lt_q20 lt_q21 lt_q22 lt_q23 lt_q24 lt_q25 lt_q26 lt_q27 lt_q28 lt_q29 lt_q30 lt_q31 lt_q32 run_fop run_store_float
attribute [local go_sem high] cmp_eql cmp_neq cmp_lss cmp_leq cmp_gtr cmp_geq

theorem agree_set {lo hi : Nat} {w : World} {g i : Nat} {v : Value} (h : g < lo) : Agree lo hi w (w.setCell ⟨g, i, none⟩ v) := fun b h1 _ => Below.heap_setCell _ _ _ _ (by dsimp only; omega)
theorem RowB.kp' {E : Nat → Nat → Nat → World → Value → Prop} (hE : KeepE E) {lo hi : Nat} {w w' : World} {v : Value} {n : Nat} (h : RowB E lo hi w v n) (k : Kp w w') : RowB E lo hi w' v n := by
  obtain ⟨g, cap, hv, h1, h2, h3, h4, h5, h6⟩ := h
  refine ⟨g, cap, hv, h1, h2, Nat.lt_of_lt_of_le h3 k.size, h4, fun j => (World.frozen?_of_block (k.block g h3)).trans (h5 j), fun i hi => ?_⟩
  obtain ⟨x, l, h, c, e, p, q, r, s⟩ := h6 i hi
  exact ⟨x, l, h, Kp.cell k c h3, hE i l h w w' x (Agree.of_kp k r) k.size e, p, q, Nat.le_trans r k.size, s⟩
theorem lists_one {lo hi : Nat} {w : World} {x : Value} {ps : List (Nat × Nat)} {g l h : Nat} (hx : PtsB l h w x ps) (hc : w.cell? ⟨g, 0, none⟩ = some x) (h1 : lo ≤ g) (h2 : g < hi) (h3 : g < w.heap.size) (hz : ∀ j, w.frozen? ⟨g, j, none⟩ = false) (h4 : lo ≤ l) (h5 : h ≤ hi) (h6 : h ≤ w.heap.size) (h7 : g < l ∨ h ≤ g) :
    ListsB [ps] lo hi w (.slice (some ⟨g, 0, none⟩) 1 1) := by
  refine ⟨g, 1, rfl, h1, h2, h3, Nat.le_refl _, hz, fun i hi => ?_⟩
  obtain rfl : i = 0 := by simp at hi; exact hi
  exact ⟨x, l, h, hc, hx, h4, h5, h6, h7⟩

set_option maxRecDepth 20000 in
set_option maxHeartbeats 1000000 in
theorem so2 (d : Nat) (s : Sh) (hK : s.kind = 2) (ps : List (Nat × Nat)) (hl : s.lists = [ps]) (hp : s.parts = []) (hn : ps.length ≤ 300) (lo hi : Nat) (x : Value) (w : World) (hx : PtsB lo hi w x ps) :
    Calls Tryz.prog 27 #[.iface 91 x] w (RetSh (d + 1) s w) := by
  obtain ⟨a, cap, rfl, hin⟩ := hx.ptsIn
  have hq := Lib.hid (fun w' (hk : Kp w w') => listB_c a cap ps (by omega) w' (hin.kp hk))
  clear hin hx
  have t_Point := tas_LineString_Point
  have t_LineString := tas_LineString_LineString
  go_enter Tryz.func27, Tryz.ntmps27
  go_wp2_with (go_at_call 42; (with_reducible refine (hq.out _ (by repeat (first | (with_reducible exact Kp.refl _) | (with_reducible assumption) | (with_reducible apply Kp.ext) | (with_reducible apply Kp.alloc) | (with_reducible apply Kp.drew) | (with_reducible apply Kp.drewN) | (with_reducible refine Kp.setCell ?_ (by first | (dsimp only; omega) | (simp; omega) | (simp; done) | (simp [size_ext_eq]; omega)) _)))).mono ?_); rintro e w1 ⟨v, u, rfl, rfl, hpb⟩; obtain ⟨g2, cap2, rfl, _⟩ := id hpb; have Hpb := Lib.hid hpb; clear hpb)
  have hsz : (ext (w.alloc (.cells #[.int .i64 0, .slice none 0 0, .slice none 0 0] 30)) u).heap.size = w.heap.size + 1 + dz (w.heap.size + 1) u := by simp [size_ext_eq]
  generalize hN : w.heap.size + 1 + dz (w.heap.size + 1) u = n at *
  have he : ext (w.alloc (.cells #[.int .i64 2, .slice (some ⟨n, 0, none⟩) 1 1, .slice none 0 0] 30)) u = (((ext (w.alloc (.cells #[.int .i64 0, .slice none 0 0, .slice none 0 0] 30)) u).setCell ⟨w.heap.size, 0, none⟩ (.int .i64 2)).setCell ⟨w.heap.size, 1, none⟩ (.slice (some ⟨n, 0, none⟩) 1 1)).setCell ⟨w.heap.size, 2, none⟩ (.slice none 0 0) := by simp [go_sem]
  refine bodyPost_ret (v := .agg #[.int .i64 2, .slice (some ⟨n, 0, none⟩) 1 1, .slice none 0 0]) (by simp [results, Tryz.results27, go_sem]) rfl ⟨_, _, _, by rw [hK], ext_of ?_, ?_⟩
  · show Kp w _
    exact (by repeat (first | (with_reducible exact Kp.refl _) | (with_reducible assumption) | (with_reducible apply Kp.ext) | (with_reducible apply Kp.alloc) | (with_reducible apply Kp.drew) | (with_reducible apply Kp.drewN) | (with_reducible refine Kp.setCell ?_ (by first | (dsimp only; omega) | (simp; omega) | (simp; done) | (simp [size_ext_eq]; omega)) _)))
  · rw [he]
    generalize hW : ext (w.alloc (.cells #[.int .i64 0, .slice none 0 0, .slice none 0 0] 30)) u = W at *
    refine ⟨.inr ?_, .inl ⟨hp, rfl⟩⟩
    rw [hl]
    have hP := Hpb.out
    refine lists_one (l := w.heap.size + 1) (h := n) (ps := ps) (x := .slice (some ⟨g2, 0, none⟩) ps.length cap2) ?_ ?_ ?_ ?_ ?_ ?_ ?_ ?_ ?_ ?_
    · refine PtsB.keep (PtsB.mono hP (by simp) (by rw [hsz]; exact Nat.le_refl _)) ((((agree_set (by omega)).trans (agree_set (by omega))).trans (agree_set (by omega))).trans (Agree.of_kp ((Kp.refl _).alloc _) (by simp [hsz])))
    · exact lit1 (by simp [hsz]) 0 _ rfl
    · omega
    · simp [hsz]
    · simp [hsz]
    · intro j
      rw [← hsz]
      have h := frozen_newS (((W.setCell ⟨w.heap.size, 0, none⟩ (.int .i64 2)).setCell ⟨w.heap.size, 1, none⟩ (.slice (some ⟨n, 0, none⟩) 1 1)).setCell ⟨w.heap.size, 2, none⟩ (.slice none 0 0)) #[.slice (some ⟨g2, 0, none⟩) ps.length cap2] 60 j
      simpa [hsz] using h
    · omega
    · simp [hsz]
    · simp [hsz]
    · exact .inr (Nat.le_refl _)

set_option maxRecDepth 20000 in
set_option maxHeartbeats 1000000 in
theorem so4 (d : Nat) (s : Sh) (hK : s.kind = 4) (ps : List (Nat × Nat)) (hl : s.lists = [ps]) (hp : s.parts = []) (hn : ps.length ≤ 300) (lo hi : Nat) (x : Value) (w : World) (hx : PtsB lo hi w x ps) :
    Calls Tryz.prog 27 #[.iface 95 x] w (RetSh (d + 1) s w) := by
  obtain ⟨a, cap, rfl, hin⟩ := hx.ptsIn
  have hq := Lib.hid (fun w' (hk : Kp w w') => listB_c a cap ps (by omega) w' (hin.kp hk))
  clear hin hx
  have t_Point := tas_MultiPoint_Point
  have t_LineString := tas_MultiPoint_LineString
  have t_Polygon := tas_MultiPoint_Polygon
  have t_MultiPoint := tas_MultiPoint_MultiPoint
  go_enter Tryz.func27, Tryz.ntmps27
  go_wp2_with (go_at_call 42; (with_reducible refine (hq.out _ (by repeat (first | (with_reducible exact Kp.refl _) | (with_reducible assumption) | (with_reducible apply Kp.ext) | (with_reducible apply Kp.alloc) | (with_reducible apply Kp.drew) | (with_reducible apply Kp.drewN) | (with_reducible refine Kp.setCell ?_ (by first | (dsimp only; omega) | (simp; omega) | (simp; done) | (simp [size_ext_eq]; omega)) _)))).mono ?_); rintro e w1 ⟨v, u, rfl, rfl, hpb⟩; obtain ⟨g2, cap2, rfl, _⟩ := id hpb; have Hpb := Lib.hid hpb; clear hpb)
  have hsz : (ext (w.alloc (.cells #[.int .i64 0, .slice none 0 0, .slice none 0 0] 30)) u).heap.size = w.heap.size + 1 + dz (w.heap.size + 1) u := by simp [size_ext_eq]
  generalize hN : w.heap.size + 1 + dz (w.heap.size + 1) u = n at *
  have he : ext (w.alloc (.cells #[.int .i64 4, .slice (some ⟨n, 0, none⟩) 1 1, .slice none 0 0] 30)) u = (((ext (w.alloc (.cells #[.int .i64 0, .slice none 0 0, .slice none 0 0] 30)) u).setCell ⟨w.heap.size, 0, none⟩ (.int .i64 4)).setCell ⟨w.heap.size, 1, none⟩ (.slice (some ⟨n, 0, none⟩) 1 1)).setCell ⟨w.heap.size, 2, none⟩ (.slice none 0 0) := by simp [go_sem]
  refine bodyPost_ret (v := .agg #[.int .i64 4, .slice (some ⟨n, 0, none⟩) 1 1, .slice none 0 0]) (by simp [results, Tryz.results27, go_sem]) rfl ⟨_, _, _, by rw [hK], ext_of ?_, ?_⟩
  · show Kp w _
    exact (by repeat (first | (with_reducible exact Kp.refl _) | (with_reducible assumption) | (with_reducible apply Kp.ext) | (with_reducible apply Kp.alloc) | (with_reducible apply Kp.drew) | (with_reducible apply Kp.drewN) | (with_reducible refine Kp.setCell ?_ (by first | (dsimp only; omega) | (simp; omega) | (simp; done) | (simp [size_ext_eq]; omega)) _)))
  · rw [he]
    generalize hW : ext (w.alloc (.cells #[.int .i64 0, .slice none 0 0, .slice none 0 0] 30)) u = W at *
    refine ⟨.inr ?_, .inl ⟨hp, rfl⟩⟩
    rw [hl]
    have hP := Hpb.out
    refine lists_one (l := w.heap.size + 1) (h := n) (ps := ps) (x := .slice (some ⟨g2, 0, none⟩) ps.length cap2) ?_ ?_ ?_ ?_ ?_ ?_ ?_ ?_ ?_ ?_
    · refine PtsB.keep (PtsB.mono hP (by simp) (by rw [hsz]; exact Nat.le_refl _)) ((((agree_set (by omega)).trans (agree_set (by omega))).trans (agree_set (by omega))).trans (Agree.of_kp ((Kp.refl _).alloc _) (by simp [hsz])))
    · exact lit1 (by simp [hsz]) 0 _ rfl
    · omega
    · simp [hsz]
    · simp [hsz]
    · intro j
      rw [← hsz]
      have h := frozen_newS (((W.setCell ⟨w.heap.size, 0, none⟩ (.int .i64 4)).setCell ⟨w.heap.size, 1, none⟩ (.slice (some ⟨n, 0, none⟩) 1 1)).setCell ⟨w.heap.size, 2, none⟩ (.slice none 0 0)) #[.slice (some ⟨g2, 0, none⟩) ps.length cap2] 60 j
      simpa [hsz] using h
    · omega
    · simp [hsz]
    · simp [hsz]
    · exact .inr (Nat.le_refl _)

theorem ShB.form : ∀ {d lo hi : Nat} {w : World} {lv pv : Value} {s : Sh}, ShB d lo hi w lv pv s → (∃ a n c, lv = .slice a n c) ∧ ∃ a n c, pv = .slice a n c
  | 0, _, _, _, _, _, _, h => h.elim
  | d + 1, _, _, _, _, _, _, ⟨h1, h2⟩ => by
    constructor
    · rcases h1 with ⟨_, rfl⟩ | ⟨g, cap, rfl, _⟩ <;> exact ⟨_, _, _, rfl⟩
    · rcases h2 with ⟨_, rfl⟩ | ⟨g, cap, rfl, _⟩ <;> exact ⟨_, _, _, rfl⟩
theorem ShB.leaf {d e lo hi : Nat} {w : World} {lv pv : Value} {s t : Sh} (h : ShB (e + 1) lo hi w lv pv t) (hl : s.lists = t.lists) (hs : s.parts = []) (ht : t.parts = []) : ShB (d + 1) lo hi w lv pv s := by
  obtain ⟨h1, h2⟩ := h
  refine ⟨by rw [hl]; exact h1, ?_⟩
  rcases h2 with ⟨_, h2⟩ | ⟨g, cap, hv, k1, k2, k3, k4, k5, _⟩
  · exact .inl ⟨hs, h2⟩
  · rw [ht] at hv k4
    exact .inr ⟨g, cap, by rw [hs]; exact hv, k1, k2, k3, by rw [hs]; exact k4, k5, fun i hi => by rw [hs] at hi; simp at hi⟩
set_option maxRecDepth 20000 in
set_option maxHeartbeats 1000000 in
theorem so3 (d : Nat) (s : Sh) (hK : s.kind = 3) (hp : s.parts = []) (hn : s.lists.length ≤ 40) (hns : ∀ l ∈ s.lists, l.length ≤ 300) (lo hi : Nat) (x : Value) (w : World) (hx : ListsB s.lists lo hi w x) :
    Calls Tryz.prog 27 #[.iface 93 x] w (RetSh (d + 1) s w) := by
  have hq := Lib.hid (fun w' (hk : Kp w w') => polygonShape_c lo hi x s.lists hn hns w' (RowB.kp' (keep_list _) hx hk))
  obtain ⟨gx, cx, rfl, _⟩ := hx
  generalize s.lists.length = nl at *
  have t_Point := tas_Polygon_Point
  have t_LineString := tas_Polygon_LineString
  have t_Polygon := tas_Polygon_Polygon
  go_enter Tryz.func27, Tryz.ntmps27
  go_wp2_with (go_at_call 43; (with_reducible refine (hq.out _ (by repeat (first | (with_reducible exact Kp.refl _) | (with_reducible assumption) | (with_reducible apply Kp.ext) | (with_reducible apply Kp.alloc) | (with_reducible apply Kp.drew) | (with_reducible apply Kp.drewN) | (with_reducible refine Kp.setCell ?_ (by first | (dsimp only; omega) | (simp; omega) | (simp; done) | (simp [size_ext_eq]; omega)) _)))).mono ?_); rintro e w1 ⟨lv, pv, u, rfl, rfl, hsh⟩; obtain ⟨⟨a2, n2, c2, rfl⟩, a3, n3, c3, rfl⟩ := hsh.form; have Hsh := Lib.hid hsh; clear hsh)
  have he : ext (w.alloc (.cells #[.int .i64 3, .slice a2 n2 c2, .slice a3 n3 c3] 30)) u = (((ext (w.alloc (.cells #[.int .i64 0, .slice none 0 0, .slice none 0 0] 30)) u).setCell ⟨w.heap.size, 0, none⟩ (.int .i64 3)).setCell ⟨w.heap.size, 1, none⟩ (.slice a2 n2 c2)).setCell ⟨w.heap.size, 2, none⟩ (.slice a3 n3 c3) := by simp [go_sem]
  refine bodyPost_ret (v := .agg #[.int .i64 3, .slice a2 n2 c2, .slice a3 n3 c3]) (by simp [results, Tryz.results27, go_sem]; try rfl) rfl ⟨_, _, _, by rw [hK], ext_of ?_, ?_⟩
  · show Kp w _
    exact (by repeat (first | (with_reducible exact Kp.refl _) | (with_reducible assumption) | (with_reducible apply Kp.ext) | (with_reducible apply Kp.alloc) | (with_reducible apply Kp.drew) | (with_reducible apply Kp.drewN) | (with_reducible refine Kp.setCell ?_ (by first | (dsimp only; omega) | (simp; omega) | (simp; done) | (simp [size_ext_eq]; omega)) _)))
  · show ShB (d + 1) w.heap.size (ext (w.alloc (.cells #[.int .i64 3, .slice a2 n2 c2, .slice a3 n3 c3] 30)) u).heap.size (ext (w.alloc (.cells #[.int .i64 3, .slice a2 n2 c2, .slice a3 n3 c3] 30)) u) _ _ s
    rw [he]
    refine ShB.leaf (t := .mk 3 s.lists []) (ShB.mono (ShB.keep Hsh.out (((agree_set (by simp)).trans (agree_set (by simp))).trans (agree_set (by simp))) (by simp)) (by simp) (by simp)) rfl hp rfl

set_option maxRecDepth 20000 in
set_option maxHeartbeats 1000000 in
theorem so1 (d : Nat) (s : Sh) (hK : s.kind = 1) (x y : Nat) (hl : s.lists = [[(x, y)]]) (hp : s.parts = []) (w : World) :
    Calls Tryz.prog 27 #[.iface 88 (.agg #[.float .f64 x, .float .f64 y])] w (RetSh (d + 1) s w) := by
  have t_Point := tas_Point_Point
  go_enter Tryz.func27, Tryz.ntmps27
  go_wp2_with fail
  refine bodyPost_ret (v := .agg #[.int .i64 1, .slice (some ⟨w.heap.size + 1 + 1 + 1, 0, none⟩) 1 1, .slice none 0 0]) (by simp [results, Tryz.results27, go_sem]) rfl ⟨_, _, _, by rw [hK], ext_of ?_, ?_⟩
  · show Kp w _
    exact (by repeat (first | (with_reducible exact Kp.refl _) | (with_reducible assumption) | (with_reducible apply Kp.ext) | (with_reducible apply Kp.alloc) | (with_reducible apply Kp.drew) | (with_reducible apply Kp.drewN) | (with_reducible refine Kp.setCell ?_ (by first | (dsimp only; omega) | (simp; omega) | (simp; done) | (simp [size_ext_eq]; omega)) _)))
  · refine ⟨.inr ?_, .inl ⟨hp, rfl⟩⟩
    rw [hl]
    refine lists_one (l := w.heap.size + 1 + 1) (h := w.heap.size + 1 + 1 + 1) (x := .slice (some ⟨w.heap.size + 1 + 1, 0, none⟩) 1 1) (ps := [(x, y)]) ?_ (by simp [go_sem]) (by omega) (by simp) (by simp) (fun j => by first | (simp [go_sem]; done) | (simp [World.frozen?, World.alloc]; done)) (by omega) (by simp) (by simp) (.inr (Nat.le_refl _))
    refine ⟨w.heap.size + 1 + 1, 1, rfl, by omega, by omega, by simp, Nat.le_refl 1, fun j => by first | (simp [go_sem]; done) | (simp [World.frozen?, World.alloc]; done), fun i hi => ?_⟩
    obtain rfl : i = 0 := by simp at hi; exact hi
    exact ⟨by simp [go_sem], by simp [go_sem]⟩
end Go.Proofs.YtobdohhabgnjiaaGreatDoor

set_option linter.all false
namespace Go.Proofs.YtobdohhabgnjiaaGreatDoor
open PubFl Go.RowKit

attribute [local go_sem] cell_ext frozen_ext ext_setCell cell_store size_ext_eq lt_p0 lt_p1 lt_p2 lt_p3 lt_p4 lt_p5 lt_p6 lt_p7 lt_p8 lt_p9 lt_p10 lt_p11 lt_p12 lt_p13 lt_p14 lt_p15 lt_p16 lt_p17 lt_p18 lt_p19 lt_p20 lt_p21 lt_p22 lt_p23 lt_p24 lt_p25 lt_p26 lt_p27 lt_p28 lt_p29 lt_p30 lt_p31 lt_p32 lt_q1 lt_q2 lt_q3 lt_q4 lt_q5 lt_q6 lt_q7 lt_q8 lt_q9 lt_q10 lt_q11 lt_q12 lt_q13 lt_q14 lt_q15 lt_q16 lt_q17 lt_q18 lt_q19 lt_q20 lt_q21 lt_q22 lt_q23 lt_q24 lt_q25 lt_q26 lt_q27 lt_q28 lt_q29 lt_q30 lt_q31 lt_q32 run_fop run_store_float
attribute [local go_sem high] cmp_eql cmp_neq cmp_lss cmp_leq cmp_gtr cmp_geq

set_option maxRecDepth 20000 in
set_option maxHeartbeats 2000000 in
theorem so5 (d : Nat) (s : Sh) (ls : List (List (Nat × Nat))) (hK : s.kind = 5) (hl : s.lists = ls) (hp : s.parts = []) (lo hi : Nat) (v : Value) (hn : ls.length ≤ 40) (hns : ∀ l ∈ ls, l.length ≤ 300) (w : World) (hs : ListsB ls lo hi w v) :
    Calls Tryz.prog 27 #[.iface 97 v] w (RetSh (d + 1) s w) := by
  obtain ⟨i0, hi, hz0, hz1, hz2⟩ := info_parts infoPts
  obtain ⟨g, cap, rfl, _, _, hg, _, _, hel⟩ := hs
  have Hel := Lib.hid hel
  have Hns := Lib.hid hns
  clear hel hns
  have t_Point := tas_MultiLineString_Point
  have t_LineString := tas_MultiLineString_LineString
  have t_Polygon := tas_MultiLineString_Polygon
  have t_MultiPoint := tas_MultiLineString_MultiPoint
  have t_MultiLineString := tas_MultiLineString_MultiLineString
  go_enter Tryz.func27, Tryz.ntmps27
  go_wp2_with fail
  go_loopw [56] (fun s9 wr => ∃ (k : Nat) (rv : Value) (xs : List Value), k ≤ ls.length ∧ s9 = .int .i64 k ∧ Kp w wr ∧ BoxS wr w.heap.size (.int .i64 0) (.slice none 0 0) (.slice none 0 0) ∧ BoxS wr (w.heap.size + 1) (.int .i64 5) rv (.slice none 0 0) ∧
    RowsQ (ListE ls) 60 (w.heap.size + 1 + 1) wr rv k xs) (fun s9 _ => ls.length - (intOf s9).toNat)
  case atStart => exact ⟨0, _, [], by omega, rfl, (by repeat (first | (with_reducible exact Kp.refl _) | (with_reducible assumption) | (with_reducible apply Kp.ext) | (with_reducible apply Kp.alloc) | (with_reducible apply Kp.drew) | (with_reducible apply Kp.drewN) | (with_reducible refine Kp.setCell ?_ (by first | (dsimp only; omega) | (simp; omega) | (simp; done) | (simp [size_ext_eq]; omega)) _))), (BoxS.new rfl _ _ _ _).kp (by repeat (first | (with_reducible exact Kp.refl _) | (with_reducible assumption) | (with_reducible apply Kp.ext) | (with_reducible apply Kp.alloc) | (with_reducible apply Kp.drew) | (with_reducible apply Kp.drewN) | (with_reducible refine Kp.setCell ?_ (by first | (dsimp only; omega) | (simp; omega) | (simp; done) | (simp [size_ext_eq]; omega)) _))), BoxS.new (by simp) _ _ _ _, RowsQ.start _ _ _ _⟩
  case round =>
    obtain ⟨k, rv, xs, hkn, rfl, hkp, box1, box2, hrow⟩ := hrel
    by_cases hlt : k < ls.length
    · obtain ⟨x, l, h, hc, hx, _, _, hh, _⟩ := Hel.out k hlt
      obtain ⟨a, capx, rfl, hin⟩ := PtsB.ptsIn hx
      have hc := Kp.cell hkp hc hg
      have hgr := Nat.lt_of_lt_of_le hg hkp.size
      have h300 : (ls.getD k []).length ≤ 300 := by rw [getD_ls _ _ hlt]; exact Hns.out _ (List.getElem_mem hlt)
      have hp := Lib.hid (fun w' (hk : Kp w w') => listB_c a capx (ls.getD k []) (by omega) w' (hin.kp hk))
      have hsz := hkp.size
      have Hrow := Lib.hid hrow
      have hown := hrow.own
      have Box1 := Lib.hid box1
      have Box2 := Lib.hid box2
      obtain ⟨ps, hps⟩ : ∃ ps, ls.getD k [] = ps := ⟨_, rfl⟩
      rw [hps] at hc hp
      have Hps := Lib.hid hps
      obtain ⟨B1, q0, q1, q2, qz⟩ := id box2
      have z1 := qz 1
      clear hrow hin hx h300 hps box1 box2 qz
      go_wp2_with fail
      obtain ⟨nr, hnr⟩ : ∃ n, n = w.heap.size + 1 := ⟨_, rfl⟩
      have r1 : ∀ u, (ext wr.drew u).cell? ⟨w.heap.size + 1, 1, none⟩ = some rv := fun u => (Box2.out.kp (show Kp wr _ from (by repeat (first | (with_reducible exact Kp.refl _) | (with_reducible assumption) | (with_reducible apply Kp.ext) | (with_reducible apply Kp.alloc) | (with_reducible apply Kp.drew) | (with_reducible apply Kp.drewN) | (with_reducible refine Kp.setCell ?_ (by first | (dsimp only; omega) | (simp; omega) | (simp; done) | (simp [size_ext_eq]; omega)) _))))).c1
      have r2 : ∀ u o, ((ext wr.drew u).alloc o).cell? ⟨w.heap.size + 1, 1, none⟩ = some rv := fun u o => (Box2.out.kp (show Kp wr _ from (by repeat (first | (with_reducible exact Kp.refl _) | (with_reducible assumption) | (with_reducible apply Kp.ext) | (with_reducible apply Kp.alloc) | (with_reducible apply Kp.drew) | (with_reducible apply Kp.drewN) | (with_reducible refine Kp.setCell ?_ (by first | (dsimp only; omega) | (simp; omega) | (simp; done) | (simp [size_ext_eq]; omega)) _))))).c1
      clear hnr nr
      go_region_law (first
        | (go_simp; go_at_call 42; (with_reducible refine (hp.out _ (by repeat (first | (with_reducible exact Kp.refl _) | (with_reducible assumption) | (with_reducible apply Kp.ext) | (with_reducible apply Kp.alloc) | (with_reducible apply Kp.drew) | (with_reducible apply Kp.drewN) | (with_reducible refine Kp.setCell ?_ (by first | (dsimp only; omega) | (simp; omega) | (simp; done) | (simp [size_ext_eq]; omega)) _)))).mono ?_); rintro e w1 ⟨v, u, rfl, rfl, hpb⟩; obtain ⟨g2, cap2, rfl, _⟩ := id hpb; have Hpb := Lib.hid hpb; clear hpb)
        | (refine step_append_own2 rfl (.tmp 61) (.tmp 64) 28 rfl (w.heap.size + 1 + 1) 60 i0 (.slice none 0 0) 1 24 Tryz.underlying28 hi hz0 hz1 hz2 rfl (by decide) rv k xs (by first | rfl | (simp [Act.eval, Act.put]; done)) ((own_kp hown (by repeat (first | (with_reducible exact Kp.refl _) | (with_reducible assumption) | (with_reducible apply Kp.ext) | (with_reducible apply Kp.alloc) | (with_reducible apply Kp.drew) | (with_reducible apply Kp.drewN) | (with_reducible refine Kp.setCell ?_ (by first | (dsimp only; omega) | (simp; omega) | (simp; done) | (simp [size_ext_eq]; omega)) _)))).alloc _) ⟨wr.heap.size + dz wr.heap.size u, 0, none⟩ 1 1 [.slice (some ⟨g2, 0, none⟩) ps.length cap2] (by first | rfl | (simp [Act.eval, Act.put]; done)) rfl (lit1 (by simp [size_ext_eq])) (fun u hu => by simp at hu; subst hu; rfl) (by unfold maxLen; omega) (by omega) (by first | (simp [size_ext_eq]; done) | (simp [size_ext_eq]; omega)) ?_
           intro v' w1 hown1 hgrow1 hblk
           have hbx := BoxS.grown (Box2.out.kp (by repeat (first | (with_reducible exact Kp.refl _) | (with_reducible assumption) | (with_reducible apply Kp.ext) | (with_reducible apply Kp.alloc) | (with_reducible apply Kp.drew) | (with_reducible apply Kp.drewN) | (with_reducible refine Kp.setCell ?_ (by first | (dsimp only; omega) | (simp; omega) | (simp; done) | (simp [size_ext_eq]; omega)) _)))) hgrow1 (fun h => by have := (own_lt hown h).1; omega)
           obtain ⟨g3, cap3, rfl⟩ := own_pos hown1
           have q1' := hbx.c1
           have z1' := hbx.z 1
           have Hbx := Lib.hid hbx
           have Hown1 := Lib.hid hown1
           have Hgrow1 := Lib.hid hgrow1
           have Hblk := Lib.hid hblk
           clear hbx hown1 hgrow1 hblk))
      all_goals
        have hk2 : Kp wr ((ext wr.drew u).alloc (.cells #[.slice (some ⟨g2, 0, none⟩) ps.length cap2] 60)) := (by repeat (first | (with_reducible exact Kp.refl _) | (with_reducible assumption) | (with_reducible apply Kp.ext) | (with_reducible apply Kp.alloc) | (with_reducible apply Kp.drew) | (with_reducible apply Kp.drewN) | (with_reducible refine Kp.setCell ?_ (by first | (dsimp only; omega) | (simp; omega) | (simp; done) | (simp [size_ext_eq]; omega)) _)))
        have hkw : Kp w w1 := Below.grown (hkp.trans hk2) Hgrow1.out (Kp.size (hkp.trans hk2)) (fun q hq => by have := (own_lt hown hq).1; omega)
        have hx : ListE ls k wr.heap.size (ext wr.drew u).heap.size ((ext wr.drew u).alloc (.cells #[.slice (some ⟨g2, 0, none⟩) ps.length cap2] 60)) (.slice (some ⟨g2, 0, none⟩) ps.length cap2) := by
          unfold ListE
          rw [Hps.out]
          exact PtsB.keep Hpb.out (Agree.of_kp ((Kp.refl _).alloc _) (Nat.le_refl _))
        have HR := Lib.hid ((RowsQ.step (keep_list ls) Hrow.out hk2 hx (by omega) (Nat.le_refl _) (by simp) Hown1.out Hgrow1.out Hblk.out).other (keep_list ls) (w' := w1.setCell ⟨w.heap.size + 1, 1, none⟩ (.slice (some ⟨g3, 0, none⟩) (k + 1) cap3)) (fun b hb => Below.heap_setCell _ _ _ _ (by dsimp only; omega)) (by simp))
        have hb1 := ((Box1.out.kp hk2).grown Hgrow1.out (fun h => by have := (own_lt hown h).1; omega)).oth (k := w.heap.size + 1) (by omega) 1 (.slice (some ⟨g3, 0, none⟩) (k + 1) cap3)
        have hb2 := Hbx.out.set1 (.slice (some ⟨g3, 0, none⟩) (k + 1) cap3)
        have Hb1 := Lib.hid hb1
        have Hb2 := Lib.hid hb2
        clear hx hb1 hb2 hk2 r1 r2 hown hc q0 q1 q2 z1 q1' z1'
        go_wp2_with fail
        go_roundw
        case rel => exact ⟨k + 1, _, _, by omega, by go_num, (by repeat (first | (with_reducible exact Kp.refl _) | (with_reducible assumption) | (with_reducible apply Kp.ext) | (with_reducible apply Kp.alloc) | (with_reducible apply Kp.drew) | (with_reducible apply Kp.drewN) | (with_reducible refine Kp.setCell ?_ (by first | (dsimp only; omega) | (simp; omega) | (simp; done) | (simp [size_ext_eq]; omega)) _))), Hb1.out, Hb2.out, HR.out⟩
        case measure => simp [intOf]; omega
    · obtain rfl : k = ls.length := by omega
      obtain ⟨A1, p0, p1, p2, pz⟩ := id box1
      obtain ⟨B1, q0, q1, q2, qz⟩ := id box2
      have z0 := pz 0
      have z1 := pz 1
      have z2 := pz 2
      obtain ⟨ar, nr, cr, rfl⟩ := own_slc hrow.own
      have Hrow := Lib.hid hrow
      have Box1 := Lib.hid (((box1.set0 (.int .i64 5)).set1 (.slice ar nr cr)).set2 (.slice none 0 0))
      clear hrow pz qz box1 box2
      go_wp2_with fail
      have hb := Box1.out
      obtain ⟨_, e0, e1, e2, _⟩ := hb
      refine bodyPost_ret (v := .agg #[.int .i64 5, .slice ar nr cr, .slice none 0 0]) (by simp [results, Tryz.results27, go_sem, e0, e1, e2]) rfl ⟨_, _, _, by rw [hK], ext_of ?_, ?_⟩
      · show Kp w _
        exact (by repeat (first | (with_reducible exact Kp.refl _) | (with_reducible assumption) | (with_reducible apply Kp.ext) | (with_reducible apply Kp.alloc) | (with_reducible apply Kp.drew) | (with_reducible apply Kp.drewN) | (with_reducible refine Kp.setCell ?_ (by first | (dsimp only; omega) | (simp; omega) | (simp; done) | (simp [size_ext_eq]; omega)) _)))
      · have hr := (Hrow.out.other (keep_list ls) (w' := ((wr.setCell ⟨w.heap.size, 0, none⟩ (.int .i64 5)).setCell ⟨w.heap.size, 1, none⟩ (.slice ar nr cr)).setCell ⟨w.heap.size, 2, none⟩ (.slice none 0 0)) (fun b hb => by
          rw [Below.heap_setCell _ _ _ _ (by dsimp only; omega), Below.heap_setCell _ _ _ _ (by dsimp only; omega), Below.heap_setCell _ _ _ _ (by dsimp only; omega)]) (by simp)).done
        refine ⟨?_, .inl ⟨hp, rfl⟩⟩
        rw [hl]
        rcases hr with ⟨h1, h2⟩ | hr
        · exact .inl ⟨List.eq_nil_of_length_eq_zero h1, h2⟩
        · exact .inr (RowB.mono hr (by omega) (Nat.le_refl _))
end Go.Proofs.YtobdohhabgnjiaaGreatDoor

set_option linter.all false
namespace Go.Proofs.YtobdohhabgnjiaaGreatDoor
open PubFl Go.RowKit

attribute [local go_sem] cell_ext frozen_ext ext_setCell cell_store size_ext_eq lt_p0 lt_p1 lt_p2 lt_p3 lt_p4 lt_p5 lt_p6 lt_p7 lt_p8 lt_p9 lt_p10 lt_p11 lt_p12 lt_p13 lt_p14 lt_p15 lt_p16 lt_p17 lt_p18 lt_p19 lt_p20 lt_p21 lt_p22 lt_p23 lt_p24 lt_p25 lt_p26 lt_p27 lt_p28 lt_p29 lt_p30 lt_p31 lt_p32 lt_q1 lt_q2 lt_q3 lt_q4 lt_q5 lt_q6 lt_q7 lt_q8 lt_q9 lt_q10 lt_q11 lt_q12 lt_q13 lt_q14 lt_q15 lt_q16 lt_q17 lt_q18 lt_q19 lt_q20 lt_q21 lt_q22 lt_q23 lt_q24 lt_q25 lt_q26 lt_q27 lt_q28 lt_q29 lt_q30 lt_q31 lt_q32 run_fop run_store_float
attribute [local go_sem high] cmp_eql cmp_neq cmp_lss cmp_leq cmp_gtr cmp_geq

theorem infoShp : (Tryz.prog.info? 30).map (fun i => (i.zero, i.size, i.bytes)) = some (some (.agg #[.int .i64 0, .slice none 0 0, .slice none 0 0]), 3, 56) := by kernel_rfl
theorem lit3 {w : World} {x y z : Value} {e : TypeId} {n : Nat} (h : n = w.heap.size) : ∀ (j : Nat) (u : Value), [x, y, z][j]? = some u → (w.alloc (.cells #[x, y, z] e)).cell? ((⟨n, 0, none⟩ : Addr).add j) = some u := by
  subst h
  intro j u hu
  match j with
  | 0 => simp at hu; subst hu; simp [Addr.add]
  | 1 => simp at hu; subst hu; simp [Addr.add]
  | 2 => simp at hu; subst hu; simp [Addr.add]
  | j + 3 => simp at hu

set_option maxRecDepth 20000 in
set_option maxHeartbeats 2000000 in
theorem so6 (d : Nat) (s : Sh) (qs : List Sh) (hK : s.kind = 6) (hl : s.lists = []) (hp : s.parts = qs) (lo hi : Nat) (v : Value) (hn : qs.length ≤ 40) (hq : ∀ i, i < qs.length → (qs.getD i dsh).kind = 3 ∧ (qs.getD i dsh).parts = [] ∧ (qs.getD i dsh).lists.length ≤ 40 ∧ ∀ l ∈ (qs.getD i dsh).lists, l.length ≤ 300) (w : World) (hs : RowB (PolyE qs) lo hi w v qs.length) :
    Calls Tryz.prog 27 #[.iface 99 v] w (RetSh (d + 1 + 1) s w) := by
  obtain ⟨i0, hi, hz0, hz1, hz2⟩ := info_parts infoShp
  obtain ⟨g, cap, rfl, _, _, hg, _, _, hel⟩ := hs
  have Hel := Lib.hid hel
  have Hq := Lib.hid hq
  clear hel hq
  have t_Point := tas_MultiPolygon_Point
  have t_LineString := tas_MultiPolygon_LineString
  have t_Polygon := tas_MultiPolygon_Polygon
  have t_MultiPoint := tas_MultiPolygon_MultiPoint
  have t_MultiLineString := tas_MultiPolygon_MultiLineString
  have t_MultiPolygon := tas_MultiPolygon_MultiPolygon
  go_enter Tryz.func27, Tryz.ntmps27
  go_wp2_with fail
  go_loopw [75] (fun s9 wr => ∃ (k : Nat) (rv : Value) (xs : List Value), k ≤ qs.length ∧ s9 = .int .i64 k ∧ Kp w wr ∧ BoxS wr w.heap.size (.int .i64 0) (.slice none 0 0) (.slice none 0 0) ∧ BoxS wr (w.heap.size + 1) (.int .i64 6) (.slice none 0 0) rv ∧
    Rows3 (d + 1) qs (w.heap.size + 1 + 1) wr rv k xs) (fun s9 _ => qs.length - (intOf s9).toNat)
  case atStart => exact ⟨0, _, [], by omega, rfl, (by repeat (first | (with_reducible exact Kp.refl _) | (with_reducible assumption) | (with_reducible apply Kp.ext) | (with_reducible apply Kp.alloc) | (with_reducible apply Kp.drew) | (with_reducible apply Kp.drewN) | (with_reducible refine Kp.setCell ?_ (by first | (dsimp only; omega) | (simp; omega) | (simp; done) | (simp [size_ext_eq]; omega)) _))), (BoxS.new rfl _ _ _ _).kp (by repeat (first | (with_reducible exact Kp.refl _) | (with_reducible assumption) | (with_reducible apply Kp.ext) | (with_reducible apply Kp.alloc) | (with_reducible apply Kp.drew) | (with_reducible apply Kp.drewN) | (with_reducible refine Kp.setCell ?_ (by first | (dsimp only; omega) | (simp; omega) | (simp; done) | (simp [size_ext_eq]; omega)) _))), BoxS.new (by simp) _ _ _ _, Rows3.start _ _ _ _⟩
  case round =>
    obtain ⟨k, rv, xs, hkn, rfl, hkp, box1, box2, hrow⟩ := hrel
    by_cases hlt : k < qs.length
    · obtain ⟨x, l, h, hc, hx, _, _, hh, _⟩ := Hel.out k hlt
      obtain ⟨hk3, hk0, hk40, hk300⟩ := Hq.out k hlt
      have hp' := Lib.hid (fun w' (hk : Kp w w') => polygonShape_c l h x _ hk40 hk300 w' (RowB.kp' (keep_list _) hx hk))
      obtain ⟨gx, cx, rfl, _⟩ := hx
      have hc := Kp.cell hkp hc hg
      have hgr := Nat.lt_of_lt_of_le hg hkp.size
      have hsz := hkp.size
      have Hrow := Lib.hid hrow
      have hown := hrow.own
      have Box1 := Lib.hid box1
      have Box2 := Lib.hid box2
      have Hk3 := Lib.hid hk3
      have Hk0 := Lib.hid hk0
      obtain ⟨nq, hnq⟩ : ∃ n, (qs.getD k dsh).lists.length = n := ⟨_, rfl⟩
      rw [hnq] at hc hp'
      obtain ⟨B1, q0, q1, q2, qz⟩ := id box2
      have z1 := qz 2
      clear hrow hk3 hk0 hk40 hk300 hnq box1 box2 qz
      go_wp2_with fail
      obtain ⟨nr, hnr⟩ : ∃ n, n = w.heap.size + 1 := ⟨_, rfl⟩
      have r1 : ∀ u, (ext wr.drew u).cell? ⟨w.heap.size + 1, 2, none⟩ = some rv := fun u => (Box2.out.kp (show Kp wr _ from (by repeat (first | (with_reducible exact Kp.refl _) | (with_reducible assumption) | (with_reducible apply Kp.ext) | (with_reducible apply Kp.alloc) | (with_reducible apply Kp.drew) | (with_reducible apply Kp.drewN) | (with_reducible refine Kp.setCell ?_ (by first | (dsimp only; omega) | (simp; omega) | (simp; done) | (simp [size_ext_eq]; omega)) _))))).c2
      have r2 : ∀ u o, ((ext wr.drew u).alloc o).cell? ⟨w.heap.size + 1, 2, none⟩ = some rv := fun u o => (Box2.out.kp (show Kp wr _ from (by repeat (first | (with_reducible exact Kp.refl _) | (with_reducible assumption) | (with_reducible apply Kp.ext) | (with_reducible apply Kp.alloc) | (with_reducible apply Kp.drew) | (with_reducible apply Kp.drewN) | (with_reducible refine Kp.setCell ?_ (by first | (dsimp only; omega) | (simp; omega) | (simp; done) | (simp [size_ext_eq]; omega)) _))))).c2
      clear hnr nr
      go_region_law (first
        | (go_simp; go_at_call 43; (with_reducible refine (hp'.out _ (by repeat (first | (with_reducible exact Kp.refl _) | (with_reducible assumption) | (with_reducible apply Kp.ext) | (with_reducible apply Kp.alloc) | (with_reducible apply Kp.drew) | (with_reducible apply Kp.drewN) | (with_reducible refine Kp.setCell ?_ (by first | (dsimp only; omega) | (simp; omega) | (simp; done) | (simp [size_ext_eq]; omega)) _)))).mono ?_); rintro e w1 ⟨lv, pv, u, rfl, rfl, hsh⟩; obtain ⟨⟨b2, n2, c2, rfl⟩, b3, n3, c3, rfl⟩ := hsh.form; have Hsh := Lib.hid hsh; clear hsh)
        | (refine step_append_own2 rfl (.tmp 80) (.tmp 83) 22 rfl (w.heap.size + 1 + 1) 30 i0 (.agg #[.int .i64 0, .slice none 0 0, .slice none 0 0]) 3 56 Tryz.underlying22 hi hz0 hz1 hz2 rfl (by decide) rv k xs (by first | rfl | (simp [Act.eval, Act.put]; done)) ((own_kp hown (by repeat (first | (with_reducible exact Kp.refl _) | (with_reducible assumption) | (with_reducible apply Kp.ext) | (with_reducible apply Kp.alloc) | (with_reducible apply Kp.drew) | (with_reducible apply Kp.drewN) | (with_reducible refine Kp.setCell ?_ (by first | (dsimp only; omega) | (simp; omega) | (simp; done) | (simp [size_ext_eq]; omega)) _)))).alloc _) ⟨wr.heap.size + dz wr.heap.size u, 0, none⟩ 1 1 [.int .i64 3, .slice b2 n2 c2, .slice b3 n3 c3] (by first | rfl | (simp [Act.eval, Act.put]; done)) rfl (lit3 (by simp [size_ext_eq])) (fun u hu => by simp at hu; rcases hu with rfl | rfl | rfl <;> rfl) (by unfold maxLen; omega) (by omega) (by first | (simp [size_ext_eq]; done) | (simp [size_ext_eq]; omega)) ?_
           intro v' w1 hown1 hgrow1 hblk
           have hbx := BoxS.grown (Box2.out.kp (by repeat (first | (with_reducible exact Kp.refl _) | (with_reducible assumption) | (with_reducible apply Kp.ext) | (with_reducible apply Kp.alloc) | (with_reducible apply Kp.drew) | (with_reducible apply Kp.drewN) | (with_reducible refine Kp.setCell ?_ (by first | (dsimp only; omega) | (simp; omega) | (simp; done) | (simp [size_ext_eq]; omega)) _)))) hgrow1 (fun h => by have := (own_lt hown h).1; omega)
           obtain ⟨g3, cap3, rfl⟩ := own_pos hown1
           have q1' := hbx.c2
           have z1' := hbx.z 2
           have Hbx := Lib.hid hbx
           have Hown1 := Lib.hid hown1
           have Hgrow1 := Lib.hid hgrow1
           have Hblk := Lib.hid hblk
           clear hbx hown1 hgrow1 hblk))
      all_goals
        have hk2 : Kp wr ((ext wr.drew u).alloc (.cells #[.int .i64 3, .slice b2 n2 c2, .slice b3 n3 c3] 30)) := (by repeat (first | (with_reducible exact Kp.refl _) | (with_reducible assumption) | (with_reducible apply Kp.ext) | (with_reducible apply Kp.alloc) | (with_reducible apply Kp.drew) | (with_reducible apply Kp.drewN) | (with_reducible refine Kp.setCell ?_ (by first | (dsimp only; omega) | (simp; omega) | (simp; done) | (simp [size_ext_eq]; omega)) _)))
        have hkw : Kp w w1 := Below.grown (hkp.trans hk2) Hgrow1.out (Kp.size (hkp.trans hk2)) (fun q hq => by have := (own_lt hown hq).1; omega)
        have hx : ShB (d + 1) wr.heap.size (ext wr.drew u).heap.size ((ext wr.drew u).alloc (.cells #[.int .i64 3, .slice b2 n2 c2, .slice b3 n3 c3] 30)) (.slice b2 n2 c2) (.slice b3 n3 c3) (qs.getD k dsh) :=
          ShB.leaf (ShB.keep Hsh.out (Agree.of_kp ((Kp.refl _).alloc _) (Nat.le_refl _)) (by simp)) rfl Hk0.out rfl
        have hown3 := Hown1.out
        rw [← Hk3.out] at hown3
        have HR := Lib.hid ((Rows3.step Hrow.out hk2 hx (by omega) (Nat.le_refl _) (by simp) hown3 Hgrow1.out Hblk.out).other (w' := w1.setCell ⟨w.heap.size + 1, 2, none⟩ (.slice (some ⟨g3, 0, none⟩) (k + 1) cap3)) (fun b hb => Below.heap_setCell _ _ _ _ (by dsimp only; omega)) (by simp))
        have hb1 := ((Box1.out.kp hk2).grown Hgrow1.out (fun h => by have := (own_lt hown h).1; omega)).oth (k := w.heap.size + 1) (by omega) 2 (.slice (some ⟨g3, 0, none⟩) (k + 1) cap3)
        have hb2 := Hbx.out.set2 (.slice (some ⟨g3, 0, none⟩) (k + 1) cap3)
        have Hb1 := Lib.hid hb1
        have Hb2 := Lib.hid hb2
        clear hown3
        clear hx hb1 hb2 hk2 r1 r2 hown hc q0 q1 q2 z1 q1' z1'
        go_wp2_with fail
        go_roundw
        case rel => exact ⟨k + 1, _, _, by omega, by go_num, (by repeat (first | (with_reducible exact Kp.refl _) | (with_reducible assumption) | (with_reducible apply Kp.ext) | (with_reducible apply Kp.alloc) | (with_reducible apply Kp.drew) | (with_reducible apply Kp.drewN) | (with_reducible refine Kp.setCell ?_ (by first | (dsimp only; omega) | (simp; omega) | (simp; done) | (simp [size_ext_eq]; omega)) _))), Hb1.out, Hb2.out, HR.out⟩
        case measure => simp [intOf]; omega
    · obtain rfl : k = qs.length := by omega
      obtain ⟨A1, p0, p1, p2, pz⟩ := id box1
      obtain ⟨B1, q0, q1, q2, qz⟩ := id box2
      have z0 := pz 0
      have z1 := pz 1
      have z2 := pz 2
      obtain ⟨ar, nr, cr, rfl⟩ := own_slc hrow.own
      have Hrow := Lib.hid hrow
      have Box1 := Lib.hid (((box1.set0 (.int .i64 6)).set1 (.slice none 0 0)).set2 (.slice ar nr cr))
      clear hrow pz qz box1 box2
      go_wp2_with fail
      have hb := Box1.out
      obtain ⟨_, e0, e1, e2, _⟩ := hb
      refine bodyPost_ret (v := .agg #[.int .i64 6, .slice none 0 0, .slice ar nr cr]) (by simp [results, Tryz.results27, go_sem, e0, e1, e2]) rfl ⟨_, _, _, by rw [hK], ext_of ?_, ?_⟩
      · show Kp w _
        exact (by repeat (first | (with_reducible exact Kp.refl _) | (with_reducible assumption) | (with_reducible apply Kp.ext) | (with_reducible apply Kp.alloc) | (with_reducible apply Kp.drew) | (with_reducible apply Kp.drewN) | (with_reducible refine Kp.setCell ?_ (by first | (dsimp only; omega) | (simp; omega) | (simp; done) | (simp [size_ext_eq]; omega)) _)))
      · have hr := Hrow.out.other (w' := ((wr.setCell ⟨w.heap.size, 0, none⟩ (.int .i64 6)).setCell ⟨w.heap.size, 1, none⟩ (.slice none 0 0)).setCell ⟨w.heap.size, 2, none⟩ (.slice ar nr cr)) (fun b hb => by
          rw [Below.heap_setCell _ _ _ _ (by dsimp only; omega), Below.heap_setCell _ _ _ _ (by dsimp only; omega), Below.heap_setCell _ _ _ _ (by dsimp only; omega)]) (by simp)
        exact ShB.mono (Rows3.done hr (.inl ⟨hl, rfl⟩) hp) (by omega) (Nat.le_refl _)
end Go.Proofs.YtobdohhabgnjiaaGreatDoor

set_option linter.all false
namespace Go.Proofs.YtobdohhabgnjiaaGreatDoor
open PubFl Go.RowKit

attribute [local go_sem] cell_ext frozen_ext ext_setCell cell_store size_ext_eq lt_p0 lt_p1 lt_p2 lt_p3 lt_p4 lt_p5 lt_p6 lt_p7 lt_p8 lt_p9 lt_p10 lt_p11 lt_p12 lt_p13 lt_p14 lt_p15 lt_p16 lt_p17 lt_p18 lt_p19 lt_p20 lt_p21 lt_p22 lt_p23 lt_p24 lt_p25 lt_p26 lt_p27 lt_p28 lt_p29 lt_p30 lt_p31 lt_p32 lt_q1 lt_q2 lt_q3 lt_q4 lt_q5 lt_q6 lt_q7 lt_q8 lt_q9 lt_q10 lt_q11 lt_q12 lt_q13 lt_q14 lt_q15 lt_q16 lt_q17 lt_q18 lt_q19 lt_q20 lt_q21 lt_q22 lt_q23 lt_q24 lt_q25 lt_q26 lt_q27 lt_q28 lt_q29 lt_q30 lt_q31 lt_q32 run_fop run_store_float
attribute [local go_sem high] cmp_eql cmp_neq cmp_lss cmp_leq cmp_gtr cmp_geq

set_option maxRecDepth 20000 in
set_option maxHeartbeats 2000000 in
theorem so7 (d : Nat) (s : Sh) (qs : List Sh) (hK : s.kind = 7) (hl : s.lists = []) (hp : s.parts = qs) (lo hi : Nat) (v : Value) (hn : qs.length ≤ 40)
    (hq : ∀ i, i < qs.length → ∀ (l h : Nat) (x : Value) (w : World), GeoB d l h w x (qs.getD i dsh) → h ≤ w.heap.size → Calls Tryz.prog 27 #[x] w (RetSh d (qs.getD i dsh) w)) (w : World) (hs : RowB (fun i l h w x => GeoB d l h w x (qs.getD i dsh)) lo hi w v qs.length) :
    Calls Tryz.prog 27 #[.iface 101 v] w (RetSh (d + 1) s w) := by
  obtain ⟨i0, hi, hz0, hz1, hz2⟩ := info_parts infoShp
  obtain ⟨g, cap, rfl, _, _, hg, _, _, hel⟩ := hs
  have Hel := Lib.hid hel
  have Hq := Lib.hid hq
  clear hel hq
  have t_Point := tas_Collection_Point
  have t_LineString := tas_Collection_LineString
  have t_Polygon := tas_Collection_Polygon
  have t_MultiPoint := tas_Collection_MultiPoint
  have t_MultiLineString := tas_Collection_MultiLineString
  have t_MultiPolygon := tas_Collection_MultiPolygon
  have t_Collection := tas_Collection_Collection
  go_enter Tryz.func27, Tryz.ntmps27
  go_wp2_with fail
  go_loopw [94] (fun s9 wr => ∃ (k : Nat) (rv : Value) (xs : List Value), k ≤ qs.length ∧ s9 = .int .i64 k ∧ Kp w wr ∧ BoxS wr w.heap.size (.int .i64 0) (.slice none 0 0) (.slice none 0 0) ∧ BoxS wr (w.heap.size + 1) (.int .i64 7) (.slice none 0 0) rv ∧
    Rows3 d qs (w.heap.size + 1 + 1) wr rv k xs) (fun s9 _ => qs.length - (intOf s9).toNat)
  case atStart => exact ⟨0, _, [], by omega, rfl, (by repeat (first | (with_reducible exact Kp.refl _) | (with_reducible assumption) | (with_reducible apply Kp.ext) | (with_reducible apply Kp.alloc) | (with_reducible apply Kp.drew) | (with_reducible apply Kp.drewN) | (with_reducible refine Kp.setCell ?_ (by first | (dsimp only; omega) | (simp; omega) | (simp; done) | (simp [size_ext_eq]; omega)) _))), (BoxS.new rfl _ _ _ _).kp (by repeat (first | (with_reducible exact Kp.refl _) | (with_reducible assumption) | (with_reducible apply Kp.ext) | (with_reducible apply Kp.alloc) | (with_reducible apply Kp.drew) | (with_reducible apply Kp.drewN) | (with_reducible refine Kp.setCell ?_ (by first | (dsimp only; omega) | (simp; omega) | (simp; done) | (simp [size_ext_eq]; omega)) _))), BoxS.new (by simp) _ _ _ _, Rows3.start _ _ _ _⟩
  case round =>
    obtain ⟨k, rv, xs, hkn, rfl, hkp, box1, box2, hrow⟩ := hrel
    by_cases hlt : k < qs.length
    · obtain ⟨x, l, h, hc, hx, _, _, hh, _⟩ := Hel.out k hlt
      have hp' := Lib.hid (fun w' (hk : Kp w w') => Hq.out k hlt l h x w' (GeoB.keep hx (Agree.of_kp hk hh) hk.size) (Nat.le_trans hh hk.size))
      obtain ⟨tx, ux, rfl⟩ := GeoB.iface hx
      have hc := Kp.cell hkp hc hg
      have hgr := Nat.lt_of_lt_of_le hg hkp.size
      have hsz := hkp.size
      have Hrow := Lib.hid hrow
      have hown := hrow.own
      have Box1 := Lib.hid box1
      have Box2 := Lib.hid box2
      obtain ⟨kq, hkq⟩ : ∃ n, (qs.getD k dsh).kind = n := ⟨_, rfl⟩
      have Hkq := Lib.hid hkq
      obtain ⟨B1, q0, q1, q2, qz⟩ := id box2
      have z1 := qz 2
      clear hrow hkq hx box1 box2 qz
      go_wp2_with fail
      obtain ⟨nr, hnr⟩ : ∃ n, n = w.heap.size + 1 := ⟨_, rfl⟩
      have r1 : ∀ u, (ext wr.drew u).cell? ⟨w.heap.size + 1, 2, none⟩ = some rv := fun u => (Box2.out.kp (show Kp wr _ from (by repeat (first | (with_reducible exact Kp.refl _) | (with_reducible assumption) | (with_reducible apply Kp.ext) | (with_reducible apply Kp.alloc) | (with_reducible apply Kp.drew) | (with_reducible apply Kp.drewN) | (with_reducible refine Kp.setCell ?_ (by first | (dsimp only; omega) | (simp; omega) | (simp; done) | (simp [size_ext_eq]; omega)) _))))).c2
      have r2 : ∀ u o, ((ext wr.drew u).alloc o).cell? ⟨w.heap.size + 1, 2, none⟩ = some rv := fun u o => (Box2.out.kp (show Kp wr _ from (by repeat (first | (with_reducible exact Kp.refl _) | (with_reducible assumption) | (with_reducible apply Kp.ext) | (with_reducible apply Kp.alloc) | (with_reducible apply Kp.drew) | (with_reducible apply Kp.drewN) | (with_reducible refine Kp.setCell ?_ (by first | (dsimp only; omega) | (simp; omega) | (simp; done) | (simp [size_ext_eq]; omega)) _))))).c2
      clear hnr nr
      go_region_law (first
        | (go_simp; go_at_call 27; (with_reducible refine (hp'.out _ (by repeat (first | (with_reducible exact Kp.refl _) | (with_reducible assumption) | (with_reducible apply Kp.ext) | (with_reducible apply Kp.alloc) | (with_reducible apply Kp.drew) | (with_reducible apply Kp.drewN) | (with_reducible refine Kp.setCell ?_ (by first | (dsimp only; omega) | (simp; omega) | (simp; done) | (simp [size_ext_eq]; omega)) _)))).mono ?_); rintro e w1 ⟨lv, pv, u, rfl, rfl, hsh⟩; rw [Hkq.out]; obtain ⟨⟨b2, n2, c2, rfl⟩, b3, n3, c3, rfl⟩ := hsh.form; have Hsh := Lib.hid hsh; clear hsh)
        | (refine step_append_own2 rfl (.tmp 99) (.tmp 102) 22 rfl (w.heap.size + 1 + 1) 30 i0 (.agg #[.int .i64 0, .slice none 0 0, .slice none 0 0]) 3 56 Tryz.underlying22 hi hz0 hz1 hz2 rfl (by decide) rv k xs (by first | rfl | (simp [Act.eval, Act.put]; done)) ((own_kp hown (by repeat (first | (with_reducible exact Kp.refl _) | (with_reducible assumption) | (with_reducible apply Kp.ext) | (with_reducible apply Kp.alloc) | (with_reducible apply Kp.drew) | (with_reducible apply Kp.drewN) | (with_reducible refine Kp.setCell ?_ (by first | (dsimp only; omega) | (simp; omega) | (simp; done) | (simp [size_ext_eq]; omega)) _)))).alloc _) ⟨wr.heap.size + dz wr.heap.size u, 0, none⟩ 1 1 [.int .i64 kq, .slice b2 n2 c2, .slice b3 n3 c3] (by first | rfl | (simp [Act.eval, Act.put]; done)) rfl (lit3 (by simp [size_ext_eq])) (fun u hu => by simp at hu; rcases hu with rfl | rfl | rfl <;> rfl) (by unfold maxLen; omega) (by omega) (by first | (simp [size_ext_eq]; done) | (simp [size_ext_eq]; omega)) ?_
           intro v' w1 hown1 hgrow1 hblk
           have hbx := BoxS.grown (Box2.out.kp (by repeat (first | (with_reducible exact Kp.refl _) | (with_reducible assumption) | (with_reducible apply Kp.ext) | (with_reducible apply Kp.alloc) | (with_reducible apply Kp.drew) | (with_reducible apply Kp.drewN) | (with_reducible refine Kp.setCell ?_ (by first | (dsimp only; omega) | (simp; omega) | (simp; done) | (simp [size_ext_eq]; omega)) _)))) hgrow1 (fun h => by have := (own_lt hown h).1; omega)
           obtain ⟨g3, cap3, rfl⟩ := own_pos hown1
           have q1' := hbx.c2
           have z1' := hbx.z 2
           have Hbx := Lib.hid hbx
           have Hown1 := Lib.hid hown1
           have Hgrow1 := Lib.hid hgrow1
           have Hblk := Lib.hid hblk
           clear hbx hown1 hgrow1 hblk))
      all_goals
        have hk2 : Kp wr ((ext wr.drew u).alloc (.cells #[.int .i64 kq, .slice b2 n2 c2, .slice b3 n3 c3] 30)) := (by repeat (first | (with_reducible exact Kp.refl _) | (with_reducible assumption) | (with_reducible apply Kp.ext) | (with_reducible apply Kp.alloc) | (with_reducible apply Kp.drew) | (with_reducible apply Kp.drewN) | (with_reducible refine Kp.setCell ?_ (by first | (dsimp only; omega) | (simp; omega) | (simp; done) | (simp [size_ext_eq]; omega)) _)))
        have hkw : Kp w w1 := Below.grown (hkp.trans hk2) Hgrow1.out (Kp.size (hkp.trans hk2)) (fun q hq => by have := (own_lt hown hq).1; omega)
        have hx : ShB d wr.heap.size (ext wr.drew u).heap.size ((ext wr.drew u).alloc (.cells #[.int .i64 kq, .slice b2 n2 c2, .slice b3 n3 c3] 30)) (.slice b2 n2 c2) (.slice b3 n3 c3) (qs.getD k dsh) :=
          ShB.keep Hsh.out (Agree.of_kp ((Kp.refl _).alloc _) (Nat.le_refl _)) (by simp)
        have hown3 := Hown1.out
        rw [← Hkq.out] at hown3
        have HR := Lib.hid ((Rows3.step Hrow.out hk2 hx (by omega) (Nat.le_refl _) (by simp) hown3 Hgrow1.out Hblk.out).other (w' := w1.setCell ⟨w.heap.size + 1, 2, none⟩ (.slice (some ⟨g3, 0, none⟩) (k + 1) cap3)) (fun b hb => Below.heap_setCell _ _ _ _ (by dsimp only; omega)) (by simp))
        have hb1 := ((Box1.out.kp hk2).grown Hgrow1.out (fun h => by have := (own_lt hown h).1; omega)).oth (k := w.heap.size + 1) (by omega) 2 (.slice (some ⟨g3, 0, none⟩) (k + 1) cap3)
        have hb2 := Hbx.out.set2 (.slice (some ⟨g3, 0, none⟩) (k + 1) cap3)
        have Hb1 := Lib.hid hb1
        have Hb2 := Lib.hid hb2
        clear hown3
        clear hx hb1 hb2 hk2 r1 r2 hown hc q0 q1 q2 z1 q1' z1'
        go_wp2_with fail
        go_roundw
        case rel => exact ⟨k + 1, _, _, by omega, by go_num, (by repeat (first | (with_reducible exact Kp.refl _) | (with_reducible assumption) | (with_reducible apply Kp.ext) | (with_reducible apply Kp.alloc) | (with_reducible apply Kp.drew) | (with_reducible apply Kp.drewN) | (with_reducible refine Kp.setCell ?_ (by first | (dsimp only; omega) | (simp; omega) | (simp; done) | (simp [size_ext_eq]; omega)) _))), Hb1.out, Hb2.out, HR.out⟩
        case measure => simp [intOf]; omega
    · obtain rfl : k = qs.length := by omega
      obtain ⟨A1, p0, p1, p2, pz⟩ := id box1
      obtain ⟨B1, q0, q1, q2, qz⟩ := id box2
      have z0 := pz 0
      have z1 := pz 1
      have z2 := pz 2
      obtain ⟨ar, nr, cr, rfl⟩ := own_slc hrow.own
      have Hrow := Lib.hid hrow
      have Box1 := Lib.hid (((box1.set0 (.int .i64 7)).set1 (.slice none 0 0)).set2 (.slice ar nr cr))
      clear hrow pz qz box1 box2
      go_wp2_with fail
      have hb := Box1.out
      obtain ⟨_, e0, e1, e2, _⟩ := hb
      refine bodyPost_ret (v := .agg #[.int .i64 7, .slice none 0 0, .slice ar nr cr]) (by simp [results, Tryz.results27, go_sem, e0, e1, e2]) rfl ⟨_, _, _, by rw [hK], ext_of ?_, ?_⟩
      · show Kp w _
        exact (by repeat (first | (with_reducible exact Kp.refl _) | (with_reducible assumption) | (with_reducible apply Kp.ext) | (with_reducible apply Kp.alloc) | (with_reducible apply Kp.drew) | (with_reducible apply Kp.drewN) | (with_reducible refine Kp.setCell ?_ (by first | (dsimp only; omega) | (simp; omega) | (simp; done) | (simp [size_ext_eq]; omega)) _)))
      · have hr := Hrow.out.other (w' := ((wr.setCell ⟨w.heap.size, 0, none⟩ (.int .i64 7)).setCell ⟨w.heap.size, 1, none⟩ (.slice none 0 0)).setCell ⟨w.heap.size, 2, none⟩ (.slice ar nr cr)) (fun b hb => by
          rw [Below.heap_setCell _ _ _ _ (by dsimp only; omega), Below.heap_setCell _ _ _ _ (by dsimp only; omega), Below.heap_setCell _ _ _ _ (by dsimp only; omega)]) (by simp)
        exact ShB.mono (Rows3.done hr (.inl ⟨hl, rfl⟩) hp) (by omega) (Nat.le_refl _)
end Go.Proofs.YtobdohhabgnjiaaGreatDoor

set_option linter.all false
namespace Go.Proofs.YtobdohhabgnjiaaGreatDoor
open PubFl Go.RowKit

theorem mem_getD' {α : Type} {l : List α} {i : Nat} {z : α} (h : i < l.length) : l.getD i z ∈ l := by
  rw [List.getD_eq_getElem?_getD, List.getElem?_eq_getElem h]; exact List.getElem_mem h
theorem poly_part' {d : Nat} {s p : Sh} (hk : s.kind = 6) (h : cntOk d p = true ∧ partB s.kind p = true) : ∃ e, d = e + 1 ∧ p.kind = 3 ∧ p.parts = [] ∧ p.lists.length ≤ 40 := by
  cases d with
  | zero => cases h.1
  | succ e =>
    obtain ⟨h1, h2⟩ := h
    obtain ⟨q1, _, q3⟩ := cntOk_parts h1
    have k3 : p.kind = 3 := by
      rw [hk] at h2
      unfold partB at h2
      simpa using h2
    rw [formB_3 k3] at q3
    simp only [decide_eq_true_eq] at q3
    exact ⟨e, rfl, k3, List.eq_nil_of_length_eq_zero q3, (shHead_spec q1).2.2.1⟩
theorem shapeOf_c : ∀ (d : Nat) (s : Sh) (lo hi : Nat) (v : Value) (w : World), GeoB d lo hi w v s → cntOk d s = true → Small d s → Calls Tryz.prog 27 #[v] w (RetSh d s w)
  | 0, _, _, _, _, _, h, _, _ => h.elim
  | d + 1, s, lo, hi, v, w, hg, hok, hsm => by
    have hpa := (cntOk_parts hok).2.1
    obtain ⟨_, _, n1, n2⟩ := shHead_spec (cntOk_parts hok).1
    obtain ⟨sl, sp⟩ := hsm
    rcases hg with ⟨hk, x, y, h1, h2, rfl⟩ | ⟨hk, ps, u, h1, h2, rfl, h3⟩ | ⟨hk, u, h1, rfl, h2⟩ | ⟨hk, ps, u, h1, h2, rfl, h3⟩ | ⟨hk, u, h1, rfl, h2⟩ | ⟨hk, u, h1, rfl, h2⟩ | ⟨hk, u, h1, rfl, h2⟩
    · exact so1 d s hk x y h1 h2 w
    · exact so2 d s hk ps h1 h2 (sl _ (by rw [h1]; simp)) lo hi u w h3
    · exact so3 d s hk h1 n1 sl lo hi u w h2
    · exact so4 d s hk ps h1 h2 (sl _ (by rw [h1]; simp)) lo hi u w h3
    · exact so5 d s s.lists hk rfl h1 lo hi u n1 sl w h2
    · cases d with
      | zero =>
        have hnil : s.parts = [] := by
          cases hq : s.parts with
          | nil => rfl
          | cons p ps => have := (hpa p (by rw [hq]; simp)).1; cases this
        have h := so6 0 s s.parts hk h1 rfl lo hi u n2 (fun i hi => by rw [hnil] at hi; simp at hi) w h2
        refine h.mono fun e w' ⟨lv, pv, x, he, hw, hsh⟩ => ⟨lv, pv, x, he, hw, ShB.leaf hsh rfl hnil hnil⟩
      | succ d => exact so6 d s s.parts hk h1 rfl lo hi u n2 (fun i hi => by
          have hm : s.parts.getD i dsh ∈ s.parts := mem_getD' hi
          obtain ⟨_, _, k3, p0, l40⟩ := poly_part' hk (hpa _ hm)
          exact ⟨k3, p0, l40, (sp _ hm).1⟩) w h2
    · exact so7 d s s.parts hk h1 rfl lo hi u n2 (fun i hi l h x w hx _ => by
        have hm : s.parts.getD i dsh ∈ s.parts := mem_getD' hi
        exact shapeOf_c d _ l h x w hx (hpa _ hm).1 (sp _ hm)) w h2
end Go.Proofs.YtobdohhabgnjiaaGreatDoor
