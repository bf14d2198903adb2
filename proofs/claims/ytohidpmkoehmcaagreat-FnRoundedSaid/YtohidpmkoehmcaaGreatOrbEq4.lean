/-
  orb.Equal of any two geometries.
-/
import Derived.Test.YtohidpmkoehmcaaGreatOrbEq3
import Derived.Test.YtohidpmkoehmcaaGreatGeo3
namespace Go.Proofs.YtohidpmkoehmcaaGreat
open PubFl Go.RowKit

theorem PtsB.kp {lo hi : Nat} {w w' : World} {v : Value} {ps : List (Nat × Nat)} (h : PtsB lo hi w v ps) (k : Kp w w') : PtsB lo hi w' v ps := by
  obtain ⟨g, cap, hv, h1, h2, h3, h4, h5, h6⟩ := h
  exact ⟨g, cap, hv, h1, h2, Nat.lt_of_lt_of_le h3 k.size, h4, fun j => (World.frozen?_of_block (k.block g h3)).trans (h5 j), h6.kp h3 k⟩
theorem RowB.kp {E : Nat → Nat → Nat → World → Value → Prop} (hE : KeepE E) {lo hi : Nat} {w w' : World} {v : Value} {n : Nat} (h : RowB E lo hi w v n) (k : Kp w w') : RowB E lo hi w' v n := by
  obtain ⟨g, cap, hv, h1, h2, h3, h4, h5, h6⟩ := h
  refine ⟨g, cap, hv, h1, h2, Nat.lt_of_lt_of_le h3 k.size, h4, fun j => (World.frozen?_of_block (k.block g h3)).trans (h5 j), fun i hi => ?_⟩
  obtain ⟨x, l, h, c, e, p, q, r, s⟩ := h6 i hi
  exact ⟨x, l, h, Kp.cell k c h3, hE i l h w w' x (Agree.of_kp k r) k.size e, p, q, Nat.le_trans r k.size, s⟩
theorem keep_geo (d : Nat) (qs : List Sh) : KeepE (fun i l h w x => GeoB d l h w x (qs.getD i dsh)) := fun _ _ _ _ _ _ a hs e => GeoB.keep e a hs
theorem mem_getD {α : Type} {l : List α} {i : Nat} {z : α} (h : i < l.length) : l.getD i z ∈ l := by
  rw [List.getD_eq_getElem?_getD, List.getElem?_eq_getElem h]; exact List.getElem_mem h
theorem PtsB.slc {lo hi : Nat} {w : World} {v : Value} {ps : List (Nat × Nat)} (h : PtsB lo hi w v ps) : ∃ a n c, v = .slice a n c := by
  obtain ⟨g, cap, hv, _⟩ := h
  exact ⟨_, _, _, hv⟩
theorem RowB.slc {E : Nat → Nat → Nat → World → Value → Prop} {lo hi : Nat} {w : World} {v : Value} {n : Nat} (h : RowB E lo hi w v n) : ∃ a n c, v = .slice a n c := by
  obtain ⟨g, cap, hv, _⟩ := h
  exact ⟨_, _, _, hv⟩
theorem GeoB.ifc : ∀ {d lo hi : Nat} {w : World} {v : Value} {s : Sh}, GeoB d lo hi w v s → ∃ t u, v = .iface t u
  | 0, _, _, _, _, _, h => h.elim
  | d + 1, _, _, _, _, _, h => by
    rcases h with ⟨_, x, y, _, _, rfl⟩ | ⟨_, _, u, _, _, rfl, _⟩ | ⟨_, u, _, rfl, _⟩ | ⟨_, _, u, _, _, rfl, _⟩ | ⟨_, u, _, rfl, _⟩ | ⟨_, u, _, rfl, _⟩ | ⟨_, u, _, rfl, _⟩ <;> exact ⟨_, _, rfl⟩
theorem ptsB_mp {lo hi lo' hi' : Nat} {w : World} {v v' : Value} {ps qs : List (Nat × Nat)} (hp : PtsB lo hi w v ps) (hq : PtsB lo' hi' w v' qs) (hn : ps.length ≤ 300) (hm : qs.length ≤ 300) :
    Calls Tryz.prog 37 #[v, v'] w (Ret w (.bool (eqPts ps qs))) := by
  obtain ⟨g, cap, rfl, _, _, h3, _, _, h6⟩ := hp
  obtain ⟨g', cap', rfl, _, _, k3, _, _, k6⟩ := hq
  exact mpEq_c g g' cap cap' ps qs (by omega) (by omega) w h3 k3 h6 k6
theorem ptsB_ls {lo hi lo' hi' : Nat} {w : World} {v v' : Value} {ps qs : List (Nat × Nat)} (hp : PtsB lo hi w v ps) (hq : PtsB lo' hi' w v' qs) (hn : ps.length ≤ 300) (hm : qs.length ≤ 300) :
    Calls Tryz.prog 38 #[v, v'] w (Ret w (.bool (eqPts ps qs))) := by
  obtain ⟨g, cap, rfl, _, _, h3, _, _, h6⟩ := hp
  obtain ⟨g', cap', rfl, _, _, k3, _, _, k6⟩ := hq
  exact lsEq_c g g' cap cap' ps qs (by omega) (by omega) w h3 k3 h6 k6
theorem ptsB_rg {lo hi lo' hi' : Nat} {w : World} {v v' : Value} {ps qs : List (Nat × Nat)} (hp : PtsB lo hi w v ps) (hq : PtsB lo' hi' w v' qs) (hn : ps.length ≤ 300) (hm : qs.length ≤ 300) :
    Calls Tryz.prog 40 #[v, v'] w (Ret w (.bool (eqPts ps qs))) := by
  obtain ⟨g, cap, rfl, _, _, h3, _, _, h6⟩ := hp
  obtain ⟨g', cap', rfl, _, _, k3, _, _, k6⟩ := hq
  exact ringEq_c g g' cap cap' ps qs (by omega) (by omega) w h3 k3 h6 k6
theorem listsB_mls {lo hi lo' hi' : Nat} {w : World} {v v' : Value} {ls ms : List (List (Nat × Nat))} (hp : ListsB ls lo hi w v) (hq : ListsB ms lo' hi' w v') (hn : ls.length ≤ 1000) (hm : ms.length ≤ 1000) (sl : ∀ l ∈ ls, l.length ≤ 300) (sm : ∀ l ∈ ms, l.length ≤ 300) :
    Calls Tryz.prog 39 #[v, v'] w (Ret w (.bool (eqLs ls ms))) := by
  obtain ⟨g, cap, rfl, _, _, h3, _, _, h6⟩ := hp
  obtain ⟨g', cap', rfl, _, _, k3, _, _, k6⟩ := hq
  refine mlsEq_c g g' cap cap' ls.length ms.length hn hm w h3 k3 (fun i => eqPts (ls.getD i []) (ms.getD i [])) fun e i hi => ?_
  obtain ⟨x, l, h, c, hx, _⟩ := h6 i hi
  obtain ⟨y, l', h', c', hy, _⟩ := k6 i (by omega)
  exact ⟨x, y, c, c', PtsB.slc hx, PtsB.slc hy, fun w' k => ptsB_ls (PtsB.kp hx k) (PtsB.kp hy k) (sl _ (mem_getD hi)) (sm _ (mem_getD (by omega)))⟩
theorem listsB_pg {lo hi lo' hi' : Nat} {w : World} {v v' : Value} {ls ms : List (List (Nat × Nat))} (hp : ListsB ls lo hi w v) (hq : ListsB ms lo' hi' w v') (hn : ls.length ≤ 1000) (hm : ms.length ≤ 1000) (sl : ∀ l ∈ ls, l.length ≤ 300) (sm : ∀ l ∈ ms, l.length ≤ 300) :
    Calls Tryz.prog 41 #[v, v'] w (Ret w (.bool (eqLs ls ms))) := by
  obtain ⟨g, cap, rfl, _, _, h3, _, _, h6⟩ := hp
  obtain ⟨g', cap', rfl, _, _, k3, _, _, k6⟩ := hq
  refine pgEq_c g g' cap cap' ls.length ms.length hn hm w h3 k3 (fun i => eqPts (ls.getD i []) (ms.getD i [])) fun e i hi => ?_
  obtain ⟨x, l, h, c, hx, _⟩ := h6 i hi
  obtain ⟨y, l', h', c', hy, _⟩ := k6 i (by omega)
  exact ⟨x, y, c, c', PtsB.slc hx, PtsB.slc hy, fun w' k => ptsB_rg (PtsB.kp hx k) (PtsB.kp hy k) (sl _ (mem_getD hi)) (sm _ (mem_getD (by omega)))⟩
theorem eqSh_leaf {d : Nat} {a b : Sh} (hk : a.kind = b.kind) (ha : a.parts = []) (hb : b.parts = []) : eqSh (d + 1) a b = eqLs a.lists b.lists := by
  unfold eqSh
  rw [decide_eq_true hk, ha, hb]
  simp
theorem eqLs_one (ps qs : List (Nat × Nat)) : eqLs [ps] [qs] = eqPts ps qs := by
  unfold eqLs
  simp [List.range_succ]
theorem eqPts_one (p q : Nat × Nat) : eqPts [p] [q] = eqP p q := by
  unfold eqPts
  simp [List.range_succ]
theorem eqSh_node {d : Nat} {a b : Sh} (hk : a.kind = b.kind) (ha : a.lists = []) (hb : b.lists = []) : eqSh (d + 1) a b = (decide (a.parts.length = b.parts.length) && (List.range a.parts.length).all fun i => eqSh d (a.parts.getD i dsh) (b.parts.getD i dsh)) := by
  conv => lhs; unfold eqSh
  rw [decide_eq_true hk, ha, hb]
  simp [eqLs]
theorem poly_part {d : Nat} {s p : Sh} (hk : s.kind = 6) (h : cntOk d p = true ∧ partB s.kind p = true) : ∃ e, d = e + 1 ∧ p.kind = 3 ∧ p.parts = [] ∧ p.lists.length ≤ 40 := by
  cases d with
  | zero => cases h.1
  | succ e =>
    obtain ⟨h1, h2⟩ := h
    obtain ⟨q1, _, q3⟩ := cntOk_parts h1
    have k3 : p.kind = 3 := by
      rw [hk] at h2
      unfold partB at h2
      simpa using h2
    rw [formB_3 k3] at q3
    simp only [decide_eq_true_eq] at q3
    exact ⟨e, rfl, k3, List.eq_nil_of_length_eq_zero q3, (shHead_spec q1).2.2.1⟩

set_option maxHeartbeats 1000000 in
theorem orbEqual_c : ∀ (d : Nat) (a b : Sh) (lo hi lo' hi' : Nat) (va vb : Value) (w : World), GeoB d lo hi w va a → GeoB d lo' hi' w vb b → hi ≤ w.heap.size → hi' ≤ w.heap.size → cntOk d a = true → cntOk d b = true → Small d a → Small d b →
    Calls Tryz.prog 24 #[va, vb] w (Ret w (.bool (eqSh d a b)))
  | 0, _, _, _, _, _, _, _, _, _, h, _, _, _, _, _, _, _ => h.elim
  | d + 1, a, b, lo, hi, lo', hi', va, vb, w, ga, gb, ha, hb, oka, okb, sa, sb => by
    have hpa := (cntOk_parts oka).2.1
    have hpb := (cntOk_parts okb).2.1
    obtain ⟨_, _, na, na'⟩ := shHead_spec (cntOk_parts oka).1
    obtain ⟨_, _, nb, nb'⟩ := shHead_spec (cntOk_parts okb).1
    obtain ⟨sla, spa⟩ := sa
    obtain ⟨slb, spb⟩ := sb
    have hkind := (eq_facts d a b).kind
    rcases ga with ⟨k1, x1, y1, l1, p1, rfl⟩ | ⟨k1, ps1, u1, l1, p1, rfl, h1⟩ | ⟨k1, u1, p1, rfl, h1⟩ | ⟨k1, ps1, u1, l1, p1, rfl, h1⟩ | ⟨k1, u1, p1, rfl, h1⟩ | ⟨k1, u1, l1, rfl, h1⟩ | ⟨k1, u1, l1, rfl, h1⟩
    · rcases gb with ⟨k2, x2, y2, l2, p2, rfl⟩ | ⟨k2, ps2, u2, l2, p2, rfl, h2⟩ | ⟨k2, u2, p2, rfl, h2⟩ | ⟨k2, ps2, u2, l2, p2, rfl, h2⟩ | ⟨k2, u2, p2, rfl, h2⟩ | ⟨k2, u2, l2, rfl, h2⟩ | ⟨k2, u2, l2, rfl, h2⟩
      · rw [eqSh_leaf (k1.trans k2.symm) p1 p2, l1, l2, eqLs_one, eqPts_one]; exact same_Point _ _ _ _ w
      · rw [hkind (by omega)]; exact diff_12 _ _ _ w
      · rw [hkind (by omega)]; exact diff_13 _ _ _ w
      · rw [hkind (by omega)]; exact diff_14 _ _ _ w
      · rw [hkind (by omega)]; exact diff_15 _ _ _ w
      · rw [hkind (by omega)]; exact diff_16 _ _ _ w
      · rw [hkind (by omega)]; exact diff_17 _ _ _ w
    · rcases gb with ⟨k2, x2, y2, l2, p2, rfl⟩ | ⟨k2, ps2, u2, l2, p2, rfl, h2⟩ | ⟨k2, u2, p2, rfl, h2⟩ | ⟨k2, ps2, u2, l2, p2, rfl, h2⟩ | ⟨k2, u2, p2, rfl, h2⟩ | ⟨k2, u2, l2, rfl, h2⟩ | ⟨k2, u2, l2, rfl, h2⟩
      · rw [hkind (by omega)]; exact diff_21 _ _ _ w
      · rw [eqSh_leaf (k1.trans k2.symm) p1 p2, l1, l2, eqLs_one]; exact same_LineString u1 u2 _ w fun w' k => ptsB_ls (h1.kp k) (h2.kp k) (sla _ (by rw [l1]; simp)) (slb _ (by rw [l2]; simp))
      · rw [hkind (by omega)]; exact diff_23 _ _ w
      · rw [hkind (by omega)]; exact diff_24 _ _ w
      · rw [hkind (by omega)]; exact diff_25 _ _ w
      · rw [hkind (by omega)]; exact diff_26 _ _ w
      · rw [hkind (by omega)]; exact diff_27 _ _ w
    · rcases gb with ⟨k2, x2, y2, l2, p2, rfl⟩ | ⟨k2, ps2, u2, l2, p2, rfl, h2⟩ | ⟨k2, u2, p2, rfl, h2⟩ | ⟨k2, ps2, u2, l2, p2, rfl, h2⟩ | ⟨k2, u2, p2, rfl, h2⟩ | ⟨k2, u2, l2, rfl, h2⟩ | ⟨k2, u2, l2, rfl, h2⟩
      · rw [hkind (by omega)]; exact diff_31 _ _ _ w
      · rw [hkind (by omega)]; exact diff_32 _ _ w
      · rw [eqSh_leaf (k1.trans k2.symm) p1 p2]; exact same_Polygon u1 u2 _ w fun w' k => listsB_pg (RowB.kp (keep_list _) h1 k) (RowB.kp (keep_list _) h2 k) (by omega) (by omega) sla slb
      · rw [hkind (by omega)]; exact diff_34 _ _ w
      · rw [hkind (by omega)]; exact diff_35 _ _ w
      · rw [hkind (by omega)]; exact diff_36 _ _ w
      · rw [hkind (by omega)]; exact diff_37 _ _ w
    · rcases gb with ⟨k2, x2, y2, l2, p2, rfl⟩ | ⟨k2, ps2, u2, l2, p2, rfl, h2⟩ | ⟨k2, u2, p2, rfl, h2⟩ | ⟨k2, ps2, u2, l2, p2, rfl, h2⟩ | ⟨k2, u2, p2, rfl, h2⟩ | ⟨k2, u2, l2, rfl, h2⟩ | ⟨k2, u2, l2, rfl, h2⟩
      · rw [hkind (by omega)]; exact diff_41 _ _ _ w
      · rw [hkind (by omega)]; exact diff_42 _ _ w
      · rw [hkind (by omega)]; exact diff_43 _ _ w
      · rw [eqSh_leaf (k1.trans k2.symm) p1 p2, l1, l2, eqLs_one]; exact same_MultiPoint u1 u2 _ w fun w' k => ptsB_mp (h1.kp k) (h2.kp k) (sla _ (by rw [l1]; simp)) (slb _ (by rw [l2]; simp))
      · rw [hkind (by omega)]; exact diff_45 _ _ w
      · rw [hkind (by omega)]; exact diff_46 _ _ w
      · rw [hkind (by omega)]; exact diff_47 _ _ w
    · rcases gb with ⟨k2, x2, y2, l2, p2, rfl⟩ | ⟨k2, ps2, u2, l2, p2, rfl, h2⟩ | ⟨k2, u2, p2, rfl, h2⟩ | ⟨k2, ps2, u2, l2, p2, rfl, h2⟩ | ⟨k2, u2, p2, rfl, h2⟩ | ⟨k2, u2, l2, rfl, h2⟩ | ⟨k2, u2, l2, rfl, h2⟩
      · rw [hkind (by omega)]; exact diff_51 _ _ _ w
      · rw [hkind (by omega)]; exact diff_52 _ _ w
      · rw [hkind (by omega)]; exact diff_53 _ _ w
      · rw [hkind (by omega)]; exact diff_54 _ _ w
      · rw [eqSh_leaf (k1.trans k2.symm) p1 p2]; exact same_MultiLineString u1 u2 _ w fun w' k => listsB_mls (RowB.kp (keep_list _) h1 k) (RowB.kp (keep_list _) h2 k) (by omega) (by omega) sla slb
      · rw [hkind (by omega)]; exact diff_56 _ _ w
      · rw [hkind (by omega)]; exact diff_57 _ _ w
    · rcases gb with ⟨k2, x2, y2, l2, p2, rfl⟩ | ⟨k2, ps2, u2, l2, p2, rfl, h2⟩ | ⟨k2, u2, p2, rfl, h2⟩ | ⟨k2, ps2, u2, l2, p2, rfl, h2⟩ | ⟨k2, u2, p2, rfl, h2⟩ | ⟨k2, u2, l2, rfl, h2⟩ | ⟨k2, u2, l2, rfl, h2⟩
      · rw [hkind (by omega)]; exact diff_61 _ _ _ w
      · rw [hkind (by omega)]; exact diff_62 _ _ w
      · rw [hkind (by omega)]; exact diff_63 _ _ w
      · rw [hkind (by omega)]; exact diff_64 _ _ w
      · rw [hkind (by omega)]; exact diff_65 _ _ w
      · rw [eqSh_node (k1.trans k2.symm) l1 l2]
        refine same_MultiPolygon u1 u2 _ w fun w' k => ?_
        obtain ⟨g, cap, rfl, _, _, q3, _, _, q6⟩ := RowB.kp (keep_poly _) h1 k
        obtain ⟨g', cap', rfl, _, _, r3, _, _, r6⟩ := RowB.kp (keep_poly _) h2 k
        refine mpgEq_c g g' cap cap' a.parts.length b.parts.length (by omega) (by omega) w' q3 r3 (fun i => eqSh d (a.parts.getD i dsh) (b.parts.getD i dsh)) fun e i hi => ?_
        obtain ⟨x, l, h, c, hx, _⟩ := q6 i hi
        obtain ⟨y, l', h', c', hy, _⟩ := r6 i (by omega)
        have ma : a.parts.getD i dsh ∈ a.parts := mem_getD hi
        have mb : b.parts.getD i dsh ∈ b.parts := mem_getD (by omega)
        obtain ⟨e1, rfl, ka, pa, na2⟩ := poly_part k1 (hpa _ ma)
        obtain ⟨e2, he, kb, pb, nb2⟩ := poly_part k2 (hpb _ mb)
        refine ⟨x, y, c, c', RowB.slc hx, RowB.slc hy, fun w'' k' => ?_⟩
        rw [eqSh_leaf (ka.trans kb.symm) pa pb]
        exact listsB_pg (RowB.kp (keep_list _) hx k') (RowB.kp (keep_list _) hy k') (by omega) (by omega) (spa _ ma).1 (spb _ mb).1
      · rw [hkind (by omega)]; exact diff_67 _ _ w
    · rcases gb with ⟨k2, x2, y2, l2, p2, rfl⟩ | ⟨k2, ps2, u2, l2, p2, rfl, h2⟩ | ⟨k2, u2, p2, rfl, h2⟩ | ⟨k2, ps2, u2, l2, p2, rfl, h2⟩ | ⟨k2, u2, p2, rfl, h2⟩ | ⟨k2, u2, l2, rfl, h2⟩ | ⟨k2, u2, l2, rfl, h2⟩
      · rw [hkind (by omega)]; exact diff_71 _ _ _ w
      · rw [hkind (by omega)]; exact diff_72 _ _ w
      · rw [hkind (by omega)]; exact diff_73 _ _ w
      · rw [hkind (by omega)]; exact diff_74 _ _ w
      · rw [hkind (by omega)]; exact diff_75 _ _ w
      · rw [hkind (by omega)]; exact diff_76 _ _ w
      · rw [eqSh_node (k1.trans k2.symm) l1 l2]
        refine same_Collection u1 u2 _ w fun w' k => ?_
        obtain ⟨g, cap, rfl, _, _, q3, _, _, q6⟩ := RowB.kp (keep_geo d a.parts) h1 k
        obtain ⟨g', cap', rfl, _, _, r3, _, _, r6⟩ := RowB.kp (keep_geo d b.parts) h2 k
        refine colEq_c g g' cap cap' a.parts.length b.parts.length (by omega) (by omega) w' q3 r3 (fun i => eqSh d (a.parts.getD i dsh) (b.parts.getD i dsh)) fun e i hi => ?_
        obtain ⟨x, l, h, c, hx, _, _, hh, _⟩ := q6 i hi
        obtain ⟨y, l', h', c', hy, _, _, hh', _⟩ := r6 i (by omega)
        have ma : a.parts.getD i dsh ∈ a.parts := mem_getD hi
        have mb : b.parts.getD i dsh ∈ b.parts := mem_getD (by omega)
        exact ⟨x, y, c, c', GeoB.ifc hx, GeoB.ifc hy, fun w'' k' => orbEqual_c d _ _ l h l' h' x y w'' (GeoB.keep hx (Agree.of_kp k' hh) k'.size) (GeoB.keep hy (Agree.of_kp k' hh') k'.size) (Nat.le_trans hh k'.size) (Nat.le_trans hh' k'.size) (hpa _ ma).1 (hpb _ mb).1 (spa _ ma) (spb _ mb)⟩
end Go.Proofs.YtohidpmkoehmcaaGreat
