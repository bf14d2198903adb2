/-
  impl.shapeOf of collections.
-/
import Derived.Test.YtohidpmkoehmcaaGreatShOf3
namespace Go.Proofs.YtohidpmkoehmcaaGreat
open PubFl Go.RowKit

attribute [local go_sem] cell_ext frozen_ext ext_setCell cell_store size_ext_eq lt_p0 lt_p1 lt_p2 lt_p3 lt_p4 lt_p5 lt_p6 lt_p7 lt_p8 lt_p9 lt_p10 lt_p11 lt_p12 lt_p13 lt_p14 lt_p15 lt_p16 lt_p17 lt_p18 lt_p19 lt_p20 lt_p21 lt_p22 lt_p23 lt_p24 lt_p25 lt_p26 lt_p27 lt_p28 lt_p29 lt_p30 lt_p31 lt_p32 lt_q1 lt_q2 lt_q3 lt_q4 lt_q5 lt_q6 lt_q7 lt_q8 lt_q9 lt_q10 lt_q11 lt_q12 lt_q13 lt_q14 lt_q15 lt_q16 lt_q17 lt_q18 lt_q19 lt_q20 lt_q21 lt_q22 lt_q23 lt_q24 lt_q25 lt_q26 lt_q27 lt_q28 lt_q29 lt_q30 lt_q31 lt_q32 run_fop run_store_float
attribute [local go_sem high] cmp_eql cmp_neq cmp_lss cmp_leq cmp_gtr cmp_geq

set_option maxRecDepth 20000 in
set_option maxHeartbeats 2000000 in
theorem so7 (d : Nat) (s : Sh) (qs : List Sh) (hK : s.kind = 7) (hl : s.lists = []) (hp : s.parts = qs) (lo hi : Nat) (v : Value) (hn : qs.length ≤ 40)
    (hq : ∀ i, i < qs.length → ∀ (l h : Nat) (x : Value) (w : World), GeoB d l h w x (qs.getD i dsh) → h ≤ w.heap.size → Calls Tryz.prog 18 #[x] w (RetSh d (qs.getD i dsh) w)) (w : World) (hs : RowB (fun i l h w x => GeoB d l h w x (qs.getD i dsh)) lo hi w v qs.length) :
    Calls Tryz.prog 18 #[.iface 69 v] w (RetSh (d + 1) s w) := by
  obtain ⟨i0, hi, hz0, hz1, hz2⟩ := info_parts infoShp
  obtain ⟨g, cap, rfl, _, _, hg, _, _, hel⟩ := hs
  have Hel := Lib.hid hel
  have Hq := Lib.hid hq
  clear hel hq
  have t_Point := tas_Collection_Point
  have t_LineString := tas_Collection_LineString
  have t_Polygon := tas_Collection_Polygon
  have t_MultiPoint := tas_Collection_MultiPoint
  have t_MultiLineString := tas_Collection_MultiLineString
  have t_MultiPolygon := tas_Collection_MultiPolygon
  have t_Collection := tas_Collection_Collection
  go_enter Tryz.func18, Tryz.ntmps18
  go_wp2_with fail
  go_loopw [94] (fun s9 wr => ∃ (k : Nat) (rv : Value) (xs : List Value), k ≤ qs.length ∧ s9 = .int .i64 k ∧ Kp w wr ∧ BoxS wr w.heap.size (.int .i64 0) (.slice none 0 0) (.slice none 0 0) ∧ BoxS wr (w.heap.size + 1) (.int .i64 7) (.slice none 0 0) rv ∧
    Rows3 d qs (w.heap.size + 1 + 1) wr rv k xs) (fun s9 _ => qs.length - (intOf s9).toNat)
  case atStart => exact ⟨0, _, [], by omega, rfl, (by repeat (first | (with_reducible exact Kp.refl _) | (with_reducible assumption) | (with_reducible apply Kp.ext) | (with_reducible apply Kp.alloc) | (with_reducible apply Kp.drew) | (with_reducible apply Kp.drewN) | (with_reducible refine Kp.setCell ?_ (by first | (dsimp only; omega) | (simp; omega) | (simp; done) | (simp [size_ext_eq]; omega)) _))), (BoxS.new rfl _ _ _ _).kp (by repeat (first | (with_reducible exact Kp.refl _) | (with_reducible assumption) | (with_reducible apply Kp.ext) | (with_reducible apply Kp.alloc) | (with_reducible apply Kp.drew) | (with_reducible apply Kp.drewN) | (with_reducible refine Kp.setCell ?_ (by first | (dsimp only; omega) | (simp; omega) | (simp; done) | (simp [size_ext_eq]; omega)) _))), BoxS.new (by simp) _ _ _ _, Rows3.start _ _ _ _⟩
  case round =>
    obtain ⟨k, rv, xs, hkn, rfl, hkp, box1, box2, hrow⟩ := hrel
    by_cases hlt : k < qs.length
    · obtain ⟨x, l, h, hc, hx, _, _, hh, _⟩ := Hel.out k hlt
      have hp' := Lib.hid (fun w' (hk : Kp w w') => Hq.out k hlt l h x w' (GeoB.keep hx (Agree.of_kp hk hh) hk.size) (Nat.le_trans hh hk.size))
      obtain ⟨tx, ux, rfl⟩ := GeoB.iface hx
      have hc := Kp.cell hkp hc hg
      have hgr := Nat.lt_of_lt_of_le hg hkp.size
      have hsz := hkp.size
      have Hrow := Lib.hid hrow
      have hown := hrow.own
      have Box1 := Lib.hid box1
      have Box2 := Lib.hid box2
      obtain ⟨kq, hkq⟩ : ∃ n, (qs.getD k dsh).kind = n := ⟨_, rfl⟩
      have Hkq := Lib.hid hkq
      obtain ⟨B1, q0, q1, q2, qz⟩ := id box2
      have z1 := qz 2
      clear hrow hkq hx box1 box2 qz
      go_wp2_with fail
      obtain ⟨nr, hnr⟩ : ∃ n, n = w.heap.size + 1 := ⟨_, rfl⟩
      have r1 : ∀ u, (ext wr.drew u).cell? ⟨w.heap.size + 1, 2, none⟩ = some rv := fun u => (Box2.out.kp (show Kp wr _ from (by repeat (first | (with_reducible exact Kp.refl _) | (with_reducible assumption) | (with_reducible apply Kp.ext) | (with_reducible apply Kp.alloc) | (with_reducible apply Kp.drew) | (with_reducible apply Kp.drewN) | (with_reducible refine Kp.setCell ?_ (by first | (dsimp only; omega) | (simp; omega) | (simp; done) | (simp [size_ext_eq]; omega)) _))))).c2
      have r2 : ∀ u o, ((ext wr.drew u).alloc o).cell? ⟨w.heap.size + 1, 2, none⟩ = some rv := fun u o => (Box2.out.kp (show Kp wr _ from (by repeat (first | (with_reducible exact Kp.refl _) | (with_reducible assumption) | (with_reducible apply Kp.ext) | (with_reducible apply Kp.alloc) | (with_reducible apply Kp.drew) | (with_reducible apply Kp.drewN) | (with_reducible refine Kp.setCell ?_ (by first | (dsimp only; omega) | (simp; omega) | (simp; done) | (simp [size_ext_eq]; omega)) _))))).c2
      clear hnr nr
      go_region_law (first
        | (go_simp; go_at_call 18; (with_reducible refine (hp'.out _ (by repeat (first | (with_reducible exact Kp.refl _) | (with_reducible assumption) | (with_reducible apply Kp.ext) | (with_reducible apply Kp.alloc) | (with_reducible apply Kp.drew) | (with_reducible apply Kp.drewN) | (with_reducible refine Kp.setCell ?_ (by first | (dsimp only; omega) | (simp; omega) | (simp; done) | (simp [size_ext_eq]; omega)) _)))).mono ?_); rintro e w1 ⟨lv, pv, u, rfl, rfl, hsh⟩; rw [Hkq.out]; obtain ⟨⟨b2, n2, c2, rfl⟩, b3, n3, c3, rfl⟩ := hsh.form; have Hsh := Lib.hid hsh; clear hsh)
        | (refine step_append_own2 rfl (.tmp 99) (.tmp 102) 23 rfl (w.heap.size + 1 + 1) 25 i0 (.agg #[.int .i64 0, .slice none 0 0, .slice none 0 0]) 3 56 Tryz.underlying23 hi hz0 hz1 hz2 rfl (by decide) rv k xs (by first | rfl | (simp [Act.eval, Act.put]; done)) ((own_kp hown (by repeat (first | (with_reducible exact Kp.refl _) | (with_reducible assumption) | (with_reducible apply Kp.ext) | (with_reducible apply Kp.alloc) | (with_reducible apply Kp.drew) | (with_reducible apply Kp.drewN) | (with_reducible refine Kp.setCell ?_ (by first | (dsimp only; omega) | (simp; omega) | (simp; done) | (simp [size_ext_eq]; omega)) _)))).alloc _) ⟨wr.heap.size + dz wr.heap.size u, 0, none⟩ 1 1 [.int .i64 kq, .slice b2 n2 c2, .slice b3 n3 c3] (by first | rfl | (simp [Act.eval, Act.put]; done)) rfl (lit3 (by simp [size_ext_eq])) (fun u hu => by simp at hu; rcases hu with rfl | rfl | rfl <;> rfl) (by unfold maxLen; omega) (by omega) (by first | (simp [size_ext_eq]; done) | (simp [size_ext_eq]; omega)) ?_
           intro v' w1 hown1 hgrow1 hblk
           have hbx := BoxS.grown (Box2.out.kp (by repeat (first | (with_reducible exact Kp.refl _) | (with_reducible assumption) | (with_reducible apply Kp.ext) | (with_reducible apply Kp.alloc) | (with_reducible apply Kp.drew) | (with_reducible apply Kp.drewN) | (with_reducible refine Kp.setCell ?_ (by first | (dsimp only; omega) | (simp; omega) | (simp; done) | (simp [size_ext_eq]; omega)) _)))) hgrow1 (fun h => by have := (own_lt hown h).1; omega)
           obtain ⟨g3, cap3, rfl⟩ := own_pos hown1
           have q1' := hbx.c2
           have z1' := hbx.z 2
           have Hbx := Lib.hid hbx
           have Hown1 := Lib.hid hown1
           have Hgrow1 := Lib.hid hgrow1
           have Hblk := Lib.hid hblk
           clear hbx hown1 hgrow1 hblk))
      all_goals
        have hk2 : Kp wr ((ext wr.drew u).alloc (.cells #[.int .i64 kq, .slice b2 n2 c2, .slice b3 n3 c3] 25)) := (by repeat (first | (with_reducible exact Kp.refl _) | (with_reducible assumption) | (with_reducible apply Kp.ext) | (with_reducible apply Kp.alloc) | (with_reducible apply Kp.drew) | (with_reducible apply Kp.drewN) | (with_reducible refine Kp.setCell ?_ (by first | (dsimp only; omega) | (simp; omega) | (simp; done) | (simp [size_ext_eq]; omega)) _)))
        have hkw : Kp w w1 := Below.grown (hkp.trans hk2) Hgrow1.out (Kp.size (hkp.trans hk2)) (fun q hq => by have := (own_lt hown hq).1; omega)
        have hx : ShB d wr.heap.size (ext wr.drew u).heap.size ((ext wr.drew u).alloc (.cells #[.int .i64 kq, .slice b2 n2 c2, .slice b3 n3 c3] 25)) (.slice b2 n2 c2) (.slice b3 n3 c3) (qs.getD k dsh) :=
          ShB.keep Hsh.out (Agree.of_kp ((Kp.refl _).alloc _) (Nat.le_refl _)) (by simp)
        have hown3 := Hown1.out
        rw [← Hkq.out] at hown3
        have HR := Lib.hid ((Rows3.step Hrow.out hk2 hx (by omega) (Nat.le_refl _) (by simp) hown3 Hgrow1.out Hblk.out).other (w' := w1.setCell ⟨w.heap.size + 1, 2, none⟩ (.slice (some ⟨g3, 0, none⟩) (k + 1) cap3)) (fun b hb => Below.heap_setCell _ _ _ _ (by dsimp only; omega)) (by simp))
        have hb1 := ((Box1.out.kp hk2).grown Hgrow1.out (fun h => by have := (own_lt hown h).1; omega)).oth (k := w.heap.size + 1) (by omega) 2 (.slice (some ⟨g3, 0, none⟩) (k + 1) cap3)
        have hb2 := Hbx.out.set2 (.slice (some ⟨g3, 0, none⟩) (k + 1) cap3)
        have Hb1 := Lib.hid hb1
        have Hb2 := Lib.hid hb2
        clear hown3
        clear hx hb1 hb2 hk2 r1 r2 hown hc q0 q1 q2 z1 q1' z1'
        go_wp2_with fail
        go_roundw
        case rel => exact ⟨k + 1, _, _, by omega, by go_num, (by repeat (first | (with_reducible exact Kp.refl _) | (with_reducible assumption) | (with_reducible apply Kp.ext) | (with_reducible apply Kp.alloc) | (with_reducible apply Kp.drew) | (with_reducible apply Kp.drewN) | (with_reducible refine Kp.setCell ?_ (by first | (dsimp only; omega) | (simp; omega) | (simp; done) | (simp [size_ext_eq]; omega)) _))), Hb1.out, Hb2.out, HR.out⟩
        case measure => simp [intOf]; omega
    · obtain rfl : k = qs.length := by omega
      obtain ⟨A1, p0, p1, p2, pz⟩ := id box1
      obtain ⟨B1, q0, q1, q2, qz⟩ := id box2
      have z0 := pz 0
      have z1 := pz 1
      have z2 := pz 2
      obtain ⟨ar, nr, cr, rfl⟩ := own_slc hrow.own
      have Hrow := Lib.hid hrow
      have Box1 := Lib.hid (((box1.set0 (.int .i64 7)).set1 (.slice none 0 0)).set2 (.slice ar nr cr))
      clear hrow pz qz box1 box2
      go_wp2_with fail
      have hb := Box1.out
      obtain ⟨_, e0, e1, e2, _⟩ := hb
      refine bodyPost_ret (v := .agg #[.int .i64 7, .slice none 0 0, .slice ar nr cr]) (by simp [results, Tryz.results18, go_sem, e0, e1, e2]) rfl ⟨_, _, _, by rw [hK], ext_of ?_, ?_⟩
      · show Kp w _
        exact (by repeat (first | (with_reducible exact Kp.refl _) | (with_reducible assumption) | (with_reducible apply Kp.ext) | (with_reducible apply Kp.alloc) | (with_reducible apply Kp.drew) | (with_reducible apply Kp.drewN) | (with_reducible refine Kp.setCell ?_ (by first | (dsimp only; omega) | (simp; omega) | (simp; done) | (simp [size_ext_eq]; omega)) _)))
      · have hr := Hrow.out.other (w' := ((wr.setCell ⟨w.heap.size, 0, none⟩ (.int .i64 7)).setCell ⟨w.heap.size, 1, none⟩ (.slice none 0 0)).setCell ⟨w.heap.size, 2, none⟩ (.slice ar nr cr)) (fun b hb => by
          rw [Below.heap_setCell _ _ _ _ (by dsimp only; omega), Below.heap_setCell _ _ _ _ (by dsimp only; omega), Below.heap_setCell _ _ _ _ (by dsimp only; omega)]) (by simp)
        exact ShB.mono (Rows3.done hr (.inl ⟨hl, rfl⟩) hp) (by omega) (Nat.le_refl _)
end Go.Proofs.YtohidpmkoehmcaaGreat
