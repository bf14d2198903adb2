/-
  impl.shapeOf of points, lines and polygons.
-/
import Derived.Test.YtohidpmkoehmcaaGreatPgSh
import Derived.Test.YtohidpmkoehmcaaGreatOrbEq2
namespace Go.Proofs.YtohidpmkoehmcaaGreat
open PubFl Go.RowKit

attribute [local go_sem] cell_ext frozen_ext ext_setCell cell_store size_ext_eq lt_p0 lt_p1 lt_p2 lt_p3 lt_p4 lt_p5 lt_p6 lt_p7 lt_p8 lt_p9 lt_p10 lt_p11 lt_p12 lt_p13 lt_p14 lt_p15 lt_p16 lt_p17 lt_p18 lt_p19 lt_p20 lt_p21 lt_p22 lt_p23 lt_p24 lt_p25 lt_p26 lt_p27 lt_p28 lt_p29 lt_p30 lt_p31 lt_p32 lt_q1 lt_q2 lt_q3 lt_q4 lt_q5 lt_q6 lt_q7 lt_q8 lt_q9 lt_q10 lt_q11 lt_q12 lt_q13 lt_q14 lt_q15 lt_q16 lt_q17 lt_q18 lt_q19 lt_q20 lt_q21 lt_q22 lt_q23 lt_q24 lt_q25 lt_q26 lt_q27 lt_q28 lt_q29 lt_q30 lt_q31 lt_q32 run_fop run_store_float
attribute [local go_sem high] cmp_eql cmp_neq cmp_lss cmp_leq cmp_gtr cmp_geq

theorem agree_set {lo hi : Nat} {w : World} {g i : Nat} {v : Value} (h : g < lo) : Agree lo hi w (w.setCell ⟨g, i, none⟩ v) := fun b h1 _ => Below.heap_setCell _ _ _ _ (by dsimp only; omega)
theorem RowB.kp' {E : Nat → Nat → Nat → World → Value → Prop} (hE : KeepE E) {lo hi : Nat} {w w' : World} {v : Value} {n : Nat} (h : RowB E lo hi w v n) (k : Kp w w') : RowB E lo hi w' v n := by
  obtain ⟨g, cap, hv, h1, h2, h3, h4, h5, h6⟩ := h
  refine ⟨g, cap, hv, h1, h2, Nat.lt_of_lt_of_le h3 k.size, h4, fun j => (World.frozen?_of_block (k.block g h3)).trans (h5 j), fun i hi => ?_⟩
  obtain ⟨x, l, h, c, e, p, q, r, s⟩ := h6 i hi
  exact ⟨x, l, h, Kp.cell k c h3, hE i l h w w' x (Agree.of_kp k r) k.size e, p, q, Nat.le_trans r k.size, s⟩
theorem lists_one {lo hi : Nat} {w : World} {x : Value} {ps : List (Nat × Nat)} {g l h : Nat} (hx : PtsB l h w x ps) (hc : w.cell? ⟨g, 0, none⟩ = some x) (h1 : lo ≤ g) (h2 : g < hi) (h3 : g < w.heap.size) (hz : ∀ j, w.frozen? ⟨g, j, none⟩ = false) (h4 : lo ≤ l) (h5 : h ≤ hi) (h6 : h ≤ w.heap.size) (h7 : g < l ∨ h ≤ g) :
    ListsB [ps] lo hi w (.slice (some ⟨g, 0, none⟩) 1 1) := by
  refine ⟨g, 1, rfl, h1, h2, h3, Nat.le_refl _, hz, fun i hi => ?_⟩
  obtain rfl : i = 0 := by simp at hi; exact hi
  exact ⟨x, l, h, hc, hx, h4, h5, h6, h7⟩

set_option maxRecDepth 20000 in
set_option maxHeartbeats 1000000 in
theorem so2 (d : Nat) (s : Sh) (hK : s.kind = 2) (ps : List (Nat × Nat)) (hl : s.lists = [ps]) (hp : s.parts = []) (hn : ps.length ≤ 300) (lo hi : Nat) (x : Value) (w : World) (hx : PtsB lo hi w x ps) :
    Calls Tryz.prog 18 #[.iface 59 x] w (RetSh (d + 1) s w) := by
  obtain ⟨a, cap, rfl, hin⟩ := hx.ptsIn
  have hq := Lib.hid (fun w' (hk : Kp w w') => listB_c a cap ps (by omega) w' (hin.kp hk))
  clear hin hx
  have t_Point := tas_LineString_Point
  have t_LineString := tas_LineString_LineString
  go_enter Tryz.func18, Tryz.ntmps18
  go_wp2_with (go_at_call 28; (with_reducible refine (hq.out _ (by repeat (first | (with_reducible exact Kp.refl _) | (with_reducible assumption) | (with_reducible apply Kp.ext) | (with_reducible apply Kp.alloc) | (with_reducible apply Kp.drew) | (with_reducible apply Kp.drewN) | (with_reducible refine Kp.setCell ?_ (by first | (dsimp only; omega) | (simp; omega) | (simp; done) | (simp [size_ext_eq]; omega)) _)))).mono ?_); rintro e w1 ⟨v, u, rfl, rfl, hpb⟩; obtain ⟨g2, cap2, rfl, _⟩ := id hpb; have Hpb := Lib.hid hpb; clear hpb)
  have hsz : (ext (w.alloc (.cells #[.int .i64 0, .slice none 0 0, .slice none 0 0] 25)) u).heap.size = w.heap.size + 1 + dz (w.heap.size + 1) u := by simp [size_ext_eq]
  generalize hN : w.heap.size + 1 + dz (w.heap.size + 1) u = n at *
  have he : ext (w.alloc (.cells #[.int .i64 2, .slice (some ⟨n, 0, none⟩) 1 1, .slice none 0 0] 25)) u = (((ext (w.alloc (.cells #[.int .i64 0, .slice none 0 0, .slice none 0 0] 25)) u).setCell ⟨w.heap.size, 0, none⟩ (.int .i64 2)).setCell ⟨w.heap.size, 1, none⟩ (.slice (some ⟨n, 0, none⟩) 1 1)).setCell ⟨w.heap.size, 2, none⟩ (.slice none 0 0) := by simp [go_sem]
  refine bodyPost_ret (v := .agg #[.int .i64 2, .slice (some ⟨n, 0, none⟩) 1 1, .slice none 0 0]) (by simp [results, Tryz.results18, go_sem]) rfl ⟨_, _, _, by rw [hK], ext_of ?_, ?_⟩
  · show Kp w _
    exact (by repeat (first | (with_reducible exact Kp.refl _) | (with_reducible assumption) | (with_reducible apply Kp.ext) | (with_reducible apply Kp.alloc) | (with_reducible apply Kp.drew) | (with_reducible apply Kp.drewN) | (with_reducible refine Kp.setCell ?_ (by first | (dsimp only; omega) | (simp; omega) | (simp; done) | (simp [size_ext_eq]; omega)) _)))
  · rw [he]
    generalize hW : ext (w.alloc (.cells #[.int .i64 0, .slice none 0 0, .slice none 0 0] 25)) u = W at *
    refine ⟨.inr ?_, .inl ⟨hp, rfl⟩⟩
    rw [hl]
    have hP := Hpb.out
    refine lists_one (l := w.heap.size + 1) (h := n) (ps := ps) (x := .slice (some ⟨g2, 0, none⟩) ps.length cap2) ?_ ?_ ?_ ?_ ?_ ?_ ?_ ?_ ?_ ?_
    · refine PtsB.keep (PtsB.mono hP (by simp) (by rw [hsz]; exact Nat.le_refl _)) ((((agree_set (by omega)).trans (agree_set (by omega))).trans (agree_set (by omega))).trans (Agree.of_kp ((Kp.refl _).alloc _) (by simp [hsz])))
    · exact lit1 (by simp [hsz]) 0 _ rfl
    · omega
    · simp [hsz]
    · simp [hsz]
    · intro j
      rw [← hsz]
      have h := frozen_newS (((W.setCell ⟨w.heap.size, 0, none⟩ (.int .i64 2)).setCell ⟨w.heap.size, 1, none⟩ (.slice (some ⟨n, 0, none⟩) 1 1)).setCell ⟨w.heap.size, 2, none⟩ (.slice none 0 0)) #[.slice (some ⟨g2, 0, none⟩) ps.length cap2] 41 j
      simpa [hsz] using h
    · omega
    · simp [hsz]
    · simp [hsz]
    · exact .inr (Nat.le_refl _)

set_option maxRecDepth 20000 in
set_option maxHeartbeats 1000000 in
theorem so4 (d : Nat) (s : Sh) (hK : s.kind = 4) (ps : List (Nat × Nat)) (hl : s.lists = [ps]) (hp : s.parts = []) (hn : ps.length ≤ 300) (lo hi : Nat) (x : Value) (w : World) (hx : PtsB lo hi w x ps) :
    Calls Tryz.prog 18 #[.iface 63 x] w (RetSh (d + 1) s w) := by
  obtain ⟨a, cap, rfl, hin⟩ := hx.ptsIn
  have hq := Lib.hid (fun w' (hk : Kp w w') => listB_c a cap ps (by omega) w' (hin.kp hk))
  clear hin hx
  have t_Point := tas_MultiPoint_Point
  have t_LineString := tas_MultiPoint_LineString
  have t_Polygon := tas_MultiPoint_Polygon
  have t_MultiPoint := tas_MultiPoint_MultiPoint
  go_enter Tryz.func18, Tryz.ntmps18
  go_wp2_with (go_at_call 28; (with_reducible refine (hq.out _ (by repeat (first | (with_reducible exact Kp.refl _) | (with_reducible assumption) | (with_reducible apply Kp.ext) | (with_reducible apply Kp.alloc) | (with_reducible apply Kp.drew) | (with_reducible apply Kp.drewN) | (with_reducible refine Kp.setCell ?_ (by first | (dsimp only; omega) | (simp; omega) | (simp; done) | (simp [size_ext_eq]; omega)) _)))).mono ?_); rintro e w1 ⟨v, u, rfl, rfl, hpb⟩; obtain ⟨g2, cap2, rfl, _⟩ := id hpb; have Hpb := Lib.hid hpb; clear hpb)
  have hsz : (ext (w.alloc (.cells #[.int .i64 0, .slice none 0 0, .slice none 0 0] 25)) u).heap.size = w.heap.size + 1 + dz (w.heap.size + 1) u := by simp [size_ext_eq]
  generalize hN : w.heap.size + 1 + dz (w.heap.size + 1) u = n at *
  have he : ext (w.alloc (.cells #[.int .i64 4, .slice (some ⟨n, 0, none⟩) 1 1, .slice none 0 0] 25)) u = (((ext (w.alloc (.cells #[.int .i64 0, .slice none 0 0, .slice none 0 0] 25)) u).setCell ⟨w.heap.size, 0, none⟩ (.int .i64 4)).setCell ⟨w.heap.size, 1, none⟩ (.slice (some ⟨n, 0, none⟩) 1 1)).setCell ⟨w.heap.size, 2, none⟩ (.slice none 0 0) := by simp [go_sem]
  refine bodyPost_ret (v := .agg #[.int .i64 4, .slice (some ⟨n, 0, none⟩) 1 1, .slice none 0 0]) (by simp [results, Tryz.results18, go_sem]) rfl ⟨_, _, _, by rw [hK], ext_of ?_, ?_⟩
  · show Kp w _
    exact (by repeat (first | (with_reducible exact Kp.refl _) | (with_reducible assumption) | (with_reducible apply Kp.ext) | (with_reducible apply Kp.alloc) | (with_reducible apply Kp.drew) | (with_reducible apply Kp.drewN) | (with_reducible refine Kp.setCell ?_ (by first | (dsimp only; omega) | (simp; omega) | (simp; done) | (simp [size_ext_eq]; omega)) _)))
  · rw [he]
    generalize hW : ext (w.alloc (.cells #[.int .i64 0, .slice none 0 0, .slice none 0 0] 25)) u = W at *
    refine ⟨.inr ?_, .inl ⟨hp, rfl⟩⟩
    rw [hl]
    have hP := Hpb.out
    refine lists_one (l := w.heap.size + 1) (h := n) (ps := ps) (x := .slice (some ⟨g2, 0, none⟩) ps.length cap2) ?_ ?_ ?_ ?_ ?_ ?_ ?_ ?_ ?_ ?_
    · refine PtsB.keep (PtsB.mono hP (by simp) (by rw [hsz]; exact Nat.le_refl _)) ((((agree_set (by omega)).trans (agree_set (by omega))).trans (agree_set (by omega))).trans (Agree.of_kp ((Kp.refl _).alloc _) (by simp [hsz])))
    · exact lit1 (by simp [hsz]) 0 _ rfl
    · omega
    · simp [hsz]
    · simp [hsz]
    · intro j
      rw [← hsz]
      have h := frozen_newS (((W.setCell ⟨w.heap.size, 0, none⟩ (.int .i64 4)).setCell ⟨w.heap.size, 1, none⟩ (.slice (some ⟨n, 0, none⟩) 1 1)).setCell ⟨w.heap.size, 2, none⟩ (.slice none 0 0)) #[.slice (some ⟨g2, 0, none⟩) ps.length cap2] 41 j
      simpa [hsz] using h
    · omega
    · simp [hsz]
    · simp [hsz]
    · exact .inr (Nat.le_refl _)

theorem ShB.form : ∀ {d lo hi : Nat} {w : World} {lv pv : Value} {s : Sh}, ShB d lo hi w lv pv s → (∃ a n c, lv = .slice a n c) ∧ ∃ a n c, pv = .slice a n c
  | 0, _, _, _, _, _, _, h => h.elim
  | d + 1, _, _, _, _, _, _, ⟨h1, h2⟩ => by
    constructor
    · rcases h1 with ⟨_, rfl⟩ | ⟨g, cap, rfl, _⟩ <;> exact ⟨_, _, _, rfl⟩
    · rcases h2 with ⟨_, rfl⟩ | ⟨g, cap, rfl, _⟩ <;> exact ⟨_, _, _, rfl⟩
theorem ShB.leaf {d e lo hi : Nat} {w : World} {lv pv : Value} {s t : Sh} (h : ShB (e + 1) lo hi w lv pv t) (hl : s.lists = t.lists) (hs : s.parts = []) (ht : t.parts = []) : ShB (d + 1) lo hi w lv pv s := by
  obtain ⟨h1, h2⟩ := h
  refine ⟨by rw [hl]; exact h1, ?_⟩
  rcases h2 with ⟨_, h2⟩ | ⟨g, cap, hv, k1, k2, k3, k4, k5, _⟩
  · exact .inl ⟨hs, h2⟩
  · rw [ht] at hv k4
    exact .inr ⟨g, cap, by rw [hs]; exact hv, k1, k2, k3, by rw [hs]; exact k4, k5, fun i hi => by rw [hs] at hi; simp at hi⟩
set_option maxRecDepth 20000 in
set_option maxHeartbeats 1000000 in
theorem so3 (d : Nat) (s : Sh) (hK : s.kind = 3) (hp : s.parts = []) (hn : s.lists.length ≤ 40) (hns : ∀ l ∈ s.lists, l.length ≤ 300) (lo hi : Nat) (x : Value) (w : World) (hx : ListsB s.lists lo hi w x) :
    Calls Tryz.prog 18 #[.iface 61 x] w (RetSh (d + 1) s w) := by
  have hq := Lib.hid (fun w' (hk : Kp w w') => polygonShape_c lo hi x s.lists hn hns w' (RowB.kp' (keep_list _) hx hk))
  obtain ⟨gx, cx, rfl, _⟩ := hx
  generalize s.lists.length = nl at *
  have t_Point := tas_Polygon_Point
  have t_LineString := tas_Polygon_LineString
  have t_Polygon := tas_Polygon_Polygon
  go_enter Tryz.func18, Tryz.ntmps18
  go_wp2_with (go_at_call 29; (with_reducible refine (hq.out _ (by repeat (first | (with_reducible exact Kp.refl _) | (with_reducible assumption) | (with_reducible apply Kp.ext) | (with_reducible apply Kp.alloc) | (with_reducible apply Kp.drew) | (with_reducible apply Kp.drewN) | (with_reducible refine Kp.setCell ?_ (by first | (dsimp only; omega) | (simp; omega) | (simp; done) | (simp [size_ext_eq]; omega)) _)))).mono ?_); rintro e w1 ⟨lv, pv, u, rfl, rfl, hsh⟩; obtain ⟨⟨a2, n2, c2, rfl⟩, a3, n3, c3, rfl⟩ := hsh.form; have Hsh := Lib.hid hsh; clear hsh)
  have he : ext (w.alloc (.cells #[.int .i64 3, .slice a2 n2 c2, .slice a3 n3 c3] 25)) u = (((ext (w.alloc (.cells #[.int .i64 0, .slice none 0 0, .slice none 0 0] 25)) u).setCell ⟨w.heap.size, 0, none⟩ (.int .i64 3)).setCell ⟨w.heap.size, 1, none⟩ (.slice a2 n2 c2)).setCell ⟨w.heap.size, 2, none⟩ (.slice a3 n3 c3) := by simp [go_sem]
  refine bodyPost_ret (v := .agg #[.int .i64 3, .slice a2 n2 c2, .slice a3 n3 c3]) (by simp [results, Tryz.results18, go_sem]; try rfl) rfl ⟨_, _, _, by rw [hK], ext_of ?_, ?_⟩
  · show Kp w _
    exact (by repeat (first | (with_reducible exact Kp.refl _) | (with_reducible assumption) | (with_reducible apply Kp.ext) | (with_reducible apply Kp.alloc) | (with_reducible apply Kp.drew) | (with_reducible apply Kp.drewN) | (with_reducible refine Kp.setCell ?_ (by first | (dsimp only; omega) | (simp; omega) | (simp; done) | (simp [size_ext_eq]; omega)) _)))
  · show ShB (d + 1) w.heap.size (ext (w.alloc (.cells #[.int .i64 3, .slice a2 n2 c2, .slice a3 n3 c3] 25)) u).heap.size (ext (w.alloc (.cells #[.int .i64 3, .slice a2 n2 c2, .slice a3 n3 c3] 25)) u) _ _ s
    rw [he]
    refine ShB.leaf (t := .mk 3 s.lists []) (ShB.mono (ShB.keep Hsh.out (((agree_set (by simp)).trans (agree_set (by simp))).trans (agree_set (by simp))) (by simp)) (by simp) (by simp)) rfl hp rfl

set_option maxRecDepth 20000 in
set_option maxHeartbeats 1000000 in
theorem so1 (d : Nat) (s : Sh) (hK : s.kind = 1) (x y : Nat) (hl : s.lists = [[(x, y)]]) (hp : s.parts = []) (w : World) :
    Calls Tryz.prog 18 #[.iface 51 (.agg #[.float .f64 x, .float .f64 y])] w (RetSh (d + 1) s w) := by
  have t_Point := tas_Point_Point
  go_enter Tryz.func18, Tryz.ntmps18
  go_wp2_with fail
  refine bodyPost_ret (v := .agg #[.int .i64 1, .slice (some ⟨w.heap.size + 1 + 1 + 1, 0, none⟩) 1 1, .slice none 0 0]) (by simp [results, Tryz.results18, go_sem]) rfl ⟨_, _, _, by rw [hK], ext_of ?_, ?_⟩
  · show Kp w _
    exact (by repeat (first | (with_reducible exact Kp.refl _) | (with_reducible assumption) | (with_reducible apply Kp.ext) | (with_reducible apply Kp.alloc) | (with_reducible apply Kp.drew) | (with_reducible apply Kp.drewN) | (with_reducible refine Kp.setCell ?_ (by first | (dsimp only; omega) | (simp; omega) | (simp; done) | (simp [size_ext_eq]; omega)) _)))
  · refine ⟨.inr ?_, .inl ⟨hp, rfl⟩⟩
    rw [hl]
    refine lists_one (l := w.heap.size + 1 + 1) (h := w.heap.size + 1 + 1 + 1) (x := .slice (some ⟨w.heap.size + 1 + 1, 0, none⟩) 1 1) (ps := [(x, y)]) ?_ (by simp [go_sem]) (by omega) (by simp) (by simp) (fun j => by first | (simp [go_sem]; done) | (simp [World.frozen?, World.alloc]; done)) (by omega) (by simp) (by simp) (.inr (Nat.le_refl _))
    refine ⟨w.heap.size + 1 + 1, 1, rfl, by omega, by omega, by simp, Nat.le_refl 1, fun j => by first | (simp [go_sem]; done) | (simp [World.frozen?, World.alloc]; done), fun i hi => ?_⟩
    obtain rfl : i = 0 := by simp at hi; exact hi
    exact ⟨by simp [go_sem], by simp [go_sem]⟩
end Go.Proofs.YtohidpmkoehmcaaGreat
