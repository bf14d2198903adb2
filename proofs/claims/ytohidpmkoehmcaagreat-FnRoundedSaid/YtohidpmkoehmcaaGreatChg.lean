/-
  laws.changed, walked: a shape whose coordinates are so much greater.
-/
import Derived.Test.YtohidpmkoehmcaaGreatMapSh
import Derived.Test.YtohidpmkoehmcaaGreatShOf5
namespace Go.Proofs.YtohidpmkoehmcaaGreat
open PubFl Go.RowKit

attribute [local go_sem] cell_ext frozen_ext ext_setCell cell_store size_ext_eq lt_p0 lt_p1 lt_p2 lt_p3 lt_p4 lt_p5 lt_p6 lt_p7 lt_p8 lt_p9 lt_p10 lt_p11 lt_p12 lt_p13 lt_p14 lt_p15 lt_p16 lt_p17 lt_p18 lt_p19 lt_p20 lt_p21 lt_p22 lt_p23 lt_p24 lt_p25 lt_p26 lt_p27 lt_p28 lt_p29 lt_p30 lt_p31 lt_p32 lt_q1 lt_q2 lt_q3 lt_q4 lt_q5 lt_q6 lt_q7 lt_q8 lt_q9 lt_q10 lt_q11 lt_q12 lt_q13 lt_q14 lt_q15 lt_q16 lt_q17 lt_q18 lt_q19 lt_q20 lt_q21 lt_q22 lt_q23 lt_q24 lt_q25 lt_q26 lt_q27 lt_q28 lt_q29 lt_q30 lt_q31 lt_q32 run_fop run_store_float
attribute [local go_sem high] cmp_eql cmp_neq cmp_lss cmp_leq cmp_gtr cmp_geq

theorem Rows3.mono {d : Nat} {qs : List Sh} {L L' : Nat} {w : World} {rv : Value} {k : Nat} {xs : List Value} (h : Rows3 d qs L w rv k xs) (hl : L' ≤ L) : Rows3 d qs L' w rv k xs := by
  obtain ⟨⟨o1, o2⟩, hel⟩ := h
  refine ⟨⟨o1, ?_⟩, fun i hi => ?_⟩
  · rcases o2 with o2 | ⟨g, cap, cur, a, b, c⟩
    · exact .inl o2
    · exact .inr ⟨g, cap, cur, a, by omega, c⟩
  · obtain ⟨lv, pv, lo, hi', y0, y1, y2, he, q1, q2, q3⟩ := hel i hi
    exact ⟨lv, pv, lo, hi', y0, y1, y2, he, by omega, q2, q3⟩
def addP (c : Nat) (p : Nat × Nat) : Nat × Nat := (fop .add p.1 c, fop .add p.2 c)
def AddOk (c : Nat) (p : Nat × Nat) : Prop := FOk .add p.1 c ∧ FOk .add p.2 c

set_option maxRecDepth 20000 in
set_option maxHeartbeats 4000000 in
theorem changed_step (d : Nat) (s : Sh) (c : Nat) (lv pv : Value) (w : World) (hs : ShIn (d + 1) w lv pv s) (hok : cntOk (d + 1) s = true) (hsm : Small (d + 1) s) (hA : AllSh (AddOk c) (d + 1) s)
    (ih : ∀ i, i < s.parts.length → ∀ lv' pv' w', ShIn d w' lv' pv' (s.parts.getD i dsh) → Calls Tryz.prog 7 #[.agg #[.int .i64 (s.parts.getD i dsh).kind, lv', pv'], .float .f64 c] w' (RetSh d (mapSh (addP c) d (s.parts.getD i dsh)) w')) :
    Calls Tryz.prog 7 #[.agg #[.int .i64 s.kind, lv, pv], .float .f64 c] w (RetSh (d + 1) (mapSh (addP c) (d + 1) s) w) := by
  obtain ⟨i1, hi, hz0, hz1, hz2⟩ := info_parts infoPt
  obtain ⟨i2, hi2, hy0, hy1, hy2⟩ := info_parts infoPts
  obtain ⟨i3, hi3, hx0, hx1, hx2⟩ := info_parts infoShp
  obtain ⟨_, _, m1, m2⟩ := shHead_spec (cntOk_parts hok).1
  obtain ⟨sl, sp⟩ := hsm
  obtain ⟨hL, a2, cap2, rfl, _, hP⟩ := hs
  obtain ⟨a1, cap1, rfl, _, hget⟩ := hL.get
  obtain ⟨ls, hls⟩ : ∃ ls, s.lists = ls := ⟨_, rfl⟩
  obtain ⟨qs, hqs⟩ : ∃ qs, s.parts = qs := ⟨_, rfl⟩
  obtain ⟨kd, hkd⟩ : ∃ kd, s.kind = kd := ⟨_, rfl⟩
  have hAl := hA.1
  have hAp := hA.2
  have hres : mapSh (addP c) (d + 1) s = .mk kd (ls.map (List.map (addP c))) (qs.map (mapSh (addP c) d)) := by
    rw [← hls, ← hqs, ← hkd]; rfl
  rw [hls] at m1 sl hget hAl ⊢
  rw [hqs] at m2 sp hP hAp ih ⊢
  rw [hres, hkd]
  have Hget := Lib.hid hget
  have HP := Lib.hid hP
  have Hsl := Lib.hid sl
  have HAl := Lib.hid hAl
  have Ih := Lib.hid ih
  clear hres hkd hqs hls hA hAl hAp hL hget hP sl sp ih hok
  go_enter Tryz.func7, Tryz.ntmps7
  go_wp2_with fail
  go_loopw [19] (fun s19 wr => ∃ (k : Nat) (rv : Value) (xs : List Value), k ≤ ls.length ∧ s19 = .int .i64 k ∧ Kp w wr ∧ BoxS wr w.heap.size (.int .i64 kd) (.slice a1 ls.length cap1) (.slice a2 qs.length cap2) ∧ BoxS wr (w.heap.size + 1) (.int .i64 0) (.slice none 0 0) (.slice none 0 0) ∧ BoxS wr (w.heap.size + 1 + 1) (.int .i64 kd) rv (.slice none 0 0) ∧
    RowsQ (ListE (ls.map (List.map (addP c)))) 41 (w.heap.size + 1 + 1 + 1) wr rv k xs) (fun s19 _ => ls.length - (intOf s19).toNat)
  case atStart => exact ⟨0, .slice none 0 0, [], by omega, rfl, (by repeat (first | (with_reducible exact Kp.refl _) | (with_reducible assumption) | (with_reducible apply Kp.ext) | (with_reducible apply Kp.alloc) | (with_reducible apply Kp.drew) | (with_reducible apply Kp.drewN) | (with_reducible refine Kp.setCell ?_ (by first | (dsimp only; omega) | (simp; omega) | (simp; done) | (simp [size_ext_eq]; omega)) _))), (BoxS.new (w := w) rfl _ _ _ _).kp (((Kp.refl _).alloc _).alloc _), (BoxS.new (w := w.alloc _) (by simp) _ _ _ _).kp ((Kp.refl _).alloc _), BoxS.new (w := (w.alloc _).alloc _) (by simp) _ _ _ _, RowsQ.start _ _ _ _⟩
  case round =>
    obtain ⟨k, rv, xs, hkn, rfl, hkp, box0, box1, box2, hrow⟩ := hrel
    by_cases hlt : k < ls.length
    · obtain ⟨b, off, a', cap', rfl, hb, hc, _, hin, _⟩ := Hget.out k hlt
      have hc := Kp.cell hkp hc hb
      have hbr := Nat.lt_of_lt_of_le hb hkp.size
      have hl300 := Hsl.out _ (List.getElem_mem hlt)
      have hadd := Lib.hid (HAl.out _ (List.getElem_mem hlt))
      obtain ⟨ps, hps⟩ : ∃ ps, ls[k]'hlt = ps := ⟨_, rfl⟩
      rw [hps] at hc hin hl300 hadd
      have Hps := Lib.hid hps
      have Hin := Lib.hid hin
      have Hrow := Lib.hid hrow
      have hown := Lib.hid hrow.own
      have Box0 := Lib.hid box0
      have Box1 := Lib.hid box1
      have Box2 := Lib.hid box2
      have hsz := hkp.size
      clear hrow hin hps box0 box1 box2
      generalize wr = wo at *
      go_wp2_with fail
      go_loopw [8, 26] (fun s8 s26 wr => ∃ (j : Nat) (nv : Value), nv = s8 ∧ j ≤ ps.length ∧ s26 = .int .i64 (j : Nat) ∧ Kp wo wr ∧ wr.ownsRow wo.heap.size 37 2 nv j (cellsOf ((ps.map (addP c)).take j)) ∧ ∃ g, nv.ownBlock = some g) (fun _ s26 _ => ps.length - (intOf s26).toNat)
      case atStart => exact ⟨0, _, rfl, by omega, rfl, (by repeat (first | (with_reducible exact Kp.refl _) | (with_reducible assumption) | (with_reducible apply Kp.ext) | (with_reducible apply Kp.alloc) | (with_reducible apply Kp.drew) | (with_reducible apply Kp.drewN) | (with_reducible refine Kp.setCell ?_ (by first | (dsimp only; omega) | (simp; omega) | (simp; done) | (simp [size_ext_eq]; omega)) _))), World.ownsRow_lit wo #[] 0 (Nat.le_refl _) (by decide) rfl, _, rfl⟩
      case round =>
        obtain ⟨j, nv, rfl, hjn, rfl, hkj, hown1, g0, hg0⟩ := hrel
        by_cases hjl : j < ps.length
        · obtain ⟨b2, off2, ha2, hb2, hpt⟩ := Hin.out.cells (by omega)
          have hkw := hkp.trans hkj
          obtain ⟨e0, e1⟩ := hpt.kp hb2 hkw j hjl
          obtain ⟨f0, f1⟩ := hadd.out _ (List.getElem_mem hjl)
          have hc1 : cellsOf ((ps.map (addP c)).take (j + 1)) = cellsOf ((ps.map (addP c)).take j) ++ [.float .f64 (fop .add (ps[j]'hjl).1 c), .float .f64 (fop .add (ps[j]'hjl).2 c)] := by
            rw [List.take_succ_eq_append_getElem (by rw [List.length_map]; exact hjl), cellsOf_snoc, List.getElem_map]; rfl
          obtain ⟨⟨px, py⟩, hq⟩ : ∃ q, ps[j]'hjl = q := ⟨_, rfl⟩
          rw [hq] at e0 e1 hc1 f0 f1
          have Hc := Lib.hid hc1
          have Hg0 := Lib.hid hg0
          have hbk : b2 < wr.heap.size := Nat.lt_of_lt_of_le hb2 hkw.size
          have hsj := hkj.size
          subst ha2
          clear hq hpt hc1 hg0 hkw
          go_wp2_with (at_builtin; refine wpList_append_own2 _ rfl (.tmp 30) (.tmp 40) 41 rfl wo.heap.size 37 i1 (.agg #[.float .f64 0, .float .f64 0]) 2 16 Tryz.underlying41 hi hz0 hz1 hz2 rfl (by decide) _ j _ rfl ((hown1.alloc _).alloc _) ⟨wr.heap.size + 1, 0, none⟩ 1 1 [.float .f64 (fop .add px c), .float .f64 (fop .add py c)] rfl rfl ?c1 ?c2 ?c3 ?c4 ?c5 ?_)
          case c2 => exact ⟨rfl, rfl⟩
          case c3 => unfold maxLen; omega
          case c4 => omega
          case c5 => omega
          intro v' w1 hown2 hgrow2 hblk2
          have hk1 : Kp wo w1 := Below.grown ((hkj.alloc _).alloc _) hgrow2 (by simp; omega) (fun q hq => (hown1.lt q hq).1)
          rw [← Hc.out] at hown2
          have hnn : ∃ g, v'.ownBlock = some g := by rcases hblk2 with e | e <;> exact ⟨_, e.trans (by first | exact Hg0.out | rfl)⟩
          clear Hc hblk2
          go_wp2_with fail
          go_roundw
          case rel => exact ⟨j + 1, _, rfl, by omega, by go_num, hk1, hown2, hnn⟩
          case measure => simp [intOf]; omega
        · have hjn2 : j = ps.length := by omega
          subst hjn2
          have hlm : (ps.map (addP c)).length = ps.length := List.length_map _
          rw [List.take_of_length_le (by omega)] at hown1
          obtain ⟨gn, gc, rfl, hgn1, hgn2, hgn3⟩ : ∃ g c', nv = .slice (some ⟨g, 0, none⟩) ps.length c' ∧ wo.heap.size ≤ g ∧ g < wr.heap.size ∧ ps.length ≤ c' := by
            have hsz1 := (own_size hown1 hg0)
            rcases hown1.2 with ⟨h, _⟩ | ⟨g, cap, cur, hv, hb, hg, h1, h2, h3, h4⟩
            · rw [h] at hg0; cases hg0
            · have hz := (own_size hown1 (g := g) (by rw [hv]; rfl)).2
              exact ⟨g, cap, hv, hb, hz, h1⟩
          have hpb : PtsB wo.heap.size wr.heap.size wr (.slice (some ⟨gn, 0, none⟩) ps.length gc) (ps.map (addP c)) := by
            refine ⟨gn, gc, by rw [hlm], hgn1, hgn2, hgn2, by rw [hlm]; exact hgn3, fun j => hown1.frozenAt j, fun i hi => ?_⟩
            obtain ⟨g1, g2⟩ := cellsOf_get (ps.map (addP c)) i hi
            rw [hlm] at hi
            rw [Nat.zero_add]
            exact ⟨(hown1.cellAt _ (by omega)).trans g1, (hown1.cellAt _ (by omega)).trans g2⟩
          have box2j := Box2.out.kp hkj
          obtain ⟨B1, q0, q1, q2, qz⟩ := id box2j
          have z1 := qz 1
          have Hpb := Lib.hid hpb
          have Hkj := Lib.hid hkj
          have Box2j := Lib.hid box2j
          have hownr := own_kp hown.out hkj
          have Hownr := Lib.hid hownr
          have hszj := hkj.size
          clear hown1 hg0 hpb qz box2j hownr hlm
          go_wp2_with (at_builtin; refine wpList_append_own2 _ rfl (.tmp 44) (.tmp 46) 22 rfl (w.heap.size + 1 + 1 + 1) 41 i2 (.slice none 0 0) 1 24 Tryz.underlying22 hi2 hy0 hy1 hy2 rfl (by decide) rv k xs rfl (Hownr.out.alloc _) ⟨wr.heap.size, 0, none⟩ 1 1 [.slice (some ⟨gn, 0, none⟩) ps.length gc] rfl rfl (lit1 rfl) (fun u hu => by simp at hu; subst hu; rfl) ?d3 ?d4 ?d5 ?_)
          case d3 => unfold maxLen; omega
          case d4 => omega
          case d5 => simp; omega
          intro v' w1 hown2 hgrow2 hblk2
          have hbx := BoxS.grown (Box2j.out.kp ((Kp.refl _).alloc _)) hgrow2 (fun h => by have := (own_lt Hownr.out h).1; omega)
          obtain ⟨g3, cap3, rfl⟩ := own_pos hown2
          have q1' := hbx.c1
          have z1' := hbx.z 1
          have hl1 := hbx.lt
          have Hbx := Lib.hid hbx
          have Hown2 := Lib.hid hown2
          have Hgrow2 := Lib.hid hgrow2
          have Hblk2 := Lib.hid hblk2
          clear hbx hown2 hgrow2 hblk2
          go_wp2_with fail
          go_roundw
          case rel =>
            have hlX := Box2.out.lt
            have hk2 : Kp wo (wr.alloc (.cells #[.slice (some ⟨gn, 0, none⟩) ps.length gc] 41)) := Hkj.out.alloc _
            have hkw : Kp w w1 := Below.grown (hkp.trans hk2) Hgrow2.out (Kp.size (hkp.trans hk2)) (fun q hq => by have := (own_lt Hownr.out hq).1; omega)
            have hx : ListE (ls.map (List.map (addP c))) k wo.heap.size wr.heap.size (wr.alloc (.cells #[.slice (some ⟨gn, 0, none⟩) ps.length gc] 41)) (.slice (some ⟨gn, 0, none⟩) ps.length gc) := by
              unfold ListE
              rw [getD_map_ls (List.map (addP c)) rfl, getD_ls _ _ hlt, Hps.out]
              exact PtsB.keep Hpb.out (Agree.of_kp ((Kp.refl _).alloc _) (Nat.le_refl _))
            have HR := (RowsQ.step (keep_list _) Hrow.out hk2 hx (by omega) (Nat.le_refl _) (by simp) Hown2.out Hgrow2.out (by rw [show (wr.alloc (.cells #[.slice (some ⟨gn, 0, none⟩) ps.length gc] 41)).heap.size = wr.heap.size + 1 by simp]; exact Hblk2.out)).other (keep_list _) (w' := w1.setCell ⟨w.heap.size + 1 + 1, 1, none⟩ (.slice (some ⟨g3, 0, none⟩) (k + 1) cap3)) (fun b hb => Below.heap_setCell _ _ _ _ (by dsimp only; omega)) (by simp)
            have hb0 := ((Box0.out.kp hk2).grown Hgrow2.out (fun h => by have := (own_lt Hownr.out h).1; omega)).oth (k := w.heap.size + 1 + 1) (by omega) 1 (.slice (some ⟨g3, 0, none⟩) (k + 1) cap3)
            have hb1 := ((Box1.out.kp hk2).grown Hgrow2.out (fun h => by have := (own_lt Hownr.out h).1; omega)).oth (k := w.heap.size + 1 + 1) (by omega) 1 (.slice (some ⟨g3, 0, none⟩) (k + 1) cap3)
            exact ⟨k + 1, _, _, by omega, by go_num, (by repeat (first | (with_reducible exact Kp.refl _) | (with_reducible assumption) | (with_reducible apply Kp.ext) | (with_reducible apply Kp.alloc) | (with_reducible apply Kp.drew) | (with_reducible apply Kp.drewN) | (with_reducible refine Kp.setCell ?_ (by first | (dsimp only; omega) | (simp; omega) | (simp; done) | (simp [size_ext_eq]; omega)) _))), hb0, hb1, Hbx.out.set1 _, HR⟩
          case measure => simp [intOf]; omega
    · have hkn2 : k = ls.length := by omega
      subst hkn2
      have hlists : ListsN (ls.map (List.map (addP c))) (w.heap.size + 1 + 1 + 1) wr.heap.size wr rv := by
        rcases hrow.done with ⟨h1, h2⟩ | h
        · exact .inl ⟨by rw [List.eq_nil_of_length_eq_zero h1]; rfl, h2⟩
        · refine .inr ?_
          unfold ListsB
          rw [List.length_map]; exact h
      obtain ⟨al, nl, cl, rfl⟩ := own_slc hrow.own
      have hX := box2.lt
      have Hlists := Lib.hid hlists
      have c02 := box0.c2
      have z02 := box0.lt
      have Box0 := Lib.hid box0
      have Box1 := Lib.hid box1
      have Box2 := Lib.hid box2
      have hkp0 := Lib.hid hkp
      have hsz0 := hkp.size
      clear hlists hrow box0 box1 box2 hkp
      generalize wr = wl at *
      go_wp2_with fail
      go_loopw [53] (fun s53 wr => ∃ (k : Nat) (rv : Value) (xs : List Value), k ≤ qs.length ∧ s53 = .int .i64 k ∧ Kp w wr ∧ BoxS wr (w.heap.size + 1) (.int .i64 0) (.slice none 0 0) (.slice none 0 0) ∧ BoxS wr (w.heap.size + 1 + 1) (.int .i64 kd) (.slice al nl cl) rv ∧
        Agree (w.heap.size + 1 + 1 + 1) wl.heap.size wl wr ∧ wl.heap.size ≤ wr.heap.size ∧ Rows3 d (qs.map (mapSh (addP c) d)) wl.heap.size wr rv k xs) (fun s53 _ => qs.length - (intOf s53).toNat)
      case atStart => exact ⟨0, .slice none 0 0, [], by omega, rfl, hkp0.out, Box1.out, Box2.out, fun _ _ _ => rfl, Nat.le_refl _, Rows3.start _ _ _ _⟩
      case round =>
        obtain ⟨k, rv, xs, hkn, rfl, hkp, box1, box2, hag, hsl, hrow⟩ := hrel
        by_cases hlt : k < qs.length
        · obtain ⟨b, off, ha2, hb, hpt⟩ : ∃ b off, a2 = some ⟨b, off, none⟩ ∧ b < w.heap.size ∧ ∀ (i : Nat) (h : i < qs.length), ∃ lv' pv', w.cell? ⟨b, off + i * 3, none⟩ = some (.int .i64 (qs[i]'h).kind) ∧ w.cell? ⟨b, off + i * 3 + 1, none⟩ = some lv' ∧ w.cell? ⟨b, off + i * 3 + 2, none⟩ = some pv' ∧ ShIn d w lv' pv' (qs[i]'h) := by
            rcases HP.out with h | h
            · rw [h] at hlt; simp at hlt
            · exact h
          subst ha2
          obtain ⟨lv', pv', p0, p1, p2, hsh⟩ := hpt k hlt
          obtain ⟨⟨b2, n2, c2, rfl⟩, b3, n3, c3, rfl⟩ := hsh.form
          have p0 := Kp.cell hkp p0 hb
          have p1 := Kp.cell hkp p1 hb
          have p2 := Kp.cell hkp p2 hb
          have hgr := Nat.lt_of_lt_of_le hb hkp.size
          have hgd := getD_sh _ _ hlt
          have hcall := Lib.hid (fun w' (hk : Kp w w') => Ih.out k hlt (.slice b2 n2 c2) (.slice b3 n3 c3) w' (by rw [hgd]; exact hsh.kp hk))
          obtain ⟨kq, hkq⟩ : ∃ n, (qs.getD k dsh).kind = n := ⟨_, rfl⟩
          rw [← hgd, hkq] at p0
          rw [hkq] at hcall
          have hkm : (mapSh (addP c) d (qs.getD k dsh)).kind = kq := by rw [mapSh_kind]; exact hkq
          have Hkm := Lib.hid hkm
          have Hrow := Lib.hid hrow
          have Hag := Lib.hid hag
          have hown := hrow.own
          have Box1' := Lib.hid box1
          have Box2' := Lib.hid box2
          have hsz := hkp.size
          clear hrow hkq hkm hsh hpt hgd hag box1 box2 Box0
          go_wp2_with fail
          have bx := BoxS.new (w := wr) rfl (.int .i64 kq) (.slice b2 n2 c2) (.slice b3 n3 c3) 25
          have hkW : Kp wr (wr.alloc (.cells #[.int .i64 kq, .slice b2 n2 c2, .slice b3 n3 c3] 25)) := (by repeat (first | (with_reducible exact Kp.refl _) | (with_reducible assumption) | (with_reducible apply Kp.ext) | (with_reducible apply Kp.alloc) | (with_reducible apply Kp.drew) | (with_reducible apply Kp.drewN) | (with_reducible refine Kp.setCell ?_ (by first | (dsimp only; omega) | (simp; omega) | (simp; done) | (simp [size_ext_eq]; omega)) _)))
          have hsW : (wr.alloc (.cells #[.int .i64 kq, .slice b2 n2 c2, .slice b3 n3 c3] 25)).heap.size = wr.heap.size + 1 := by simp
          have hb2W := Box2'.out.kp hkW
          have hownW := own_kp hown hkW
          have hkpW := hkp.trans hkW
          obtain ⟨_, x0, x1, x2, _⟩ := id bx
          have Bx := Lib.hid bx
          have B2W := Lib.hid hb2W
          have zW := hb2W.z 2
          have ltW := hb2W.lt
          have hsW' : wr.heap.size < (wr.alloc (.cells #[.int .i64 kq, .slice b2 n2 c2, .slice b3 n3 c3] 25)).heap.size := by omega
          have cW := hb2W.c2
          generalize wr.alloc (.cells #[.int .i64 kq, .slice b2 n2 c2, .slice b3 n3 c3] 25) = W1 at *
          have r1 : ∀ u, (ext W1.drew u).cell? ⟨w.heap.size + 1 + 1, 2, none⟩ = some rv := fun u => (B2W.out.kp (show Kp W1 _ from (by repeat (first | (with_reducible exact Kp.refl _) | (with_reducible assumption) | (with_reducible apply Kp.ext) | (with_reducible apply Kp.alloc) | (with_reducible apply Kp.drew) | (with_reducible apply Kp.drewN) | (with_reducible refine Kp.setCell ?_ (by first | (dsimp only; omega) | (simp; omega) | (simp; done) | (simp [size_ext_eq]; omega)) _))))).c2
          have r2 : ∀ u o, ((ext W1.drew u).alloc o).cell? ⟨w.heap.size + 1 + 1, 2, none⟩ = some rv := fun u o => (B2W.out.kp (show Kp W1 _ from (by repeat (first | (with_reducible exact Kp.refl _) | (with_reducible assumption) | (with_reducible apply Kp.ext) | (with_reducible apply Kp.alloc) | (with_reducible apply Kp.drew) | (with_reducible apply Kp.drewN) | (with_reducible refine Kp.setCell ?_ (by first | (dsimp only; omega) | (simp; omega) | (simp; done) | (simp [size_ext_eq]; omega)) _))))).c2
          have hszW := hkW.size
          clear bx hb2W p0 p1 p2 hown hsW
          go_region_law (first
            | (go_simp; go_at_call 7; (with_reducible refine (hcall.out _ (by repeat (first | (with_reducible exact Kp.refl _) | (with_reducible assumption) | (with_reducible apply Kp.ext) | (with_reducible apply Kp.alloc) | (with_reducible apply Kp.drew) | (with_reducible apply Kp.drewN) | (with_reducible refine Kp.setCell ?_ (by first | (dsimp only; omega) | (simp; omega) | (simp; done) | (simp [size_ext_eq]; omega)) _)))).mono ?_); rintro e w1 ⟨lv, pv, u, rfl, rfl, hsh⟩; rw [Hkm.out]; obtain ⟨⟨e2, m2', f2, rfl⟩, e3, m3', f3, rfl⟩ := hsh.form; have Hsh := Lib.hid hsh; clear hsh)
            | (refine step_append_own2 rfl (.tmp 58) (.tmp 62) 23 rfl wl.heap.size 25 i3 (.agg #[.int .i64 0, .slice none 0 0, .slice none 0 0]) 3 56 Tryz.underlying23 hi3 hx0 hx1 hx2 rfl (by decide) rv k xs (by first | rfl | (simp [Act.eval, Act.put]; done)) ((own_kp hownW (by repeat (first | (with_reducible exact Kp.refl _) | (with_reducible assumption) | (with_reducible apply Kp.ext) | (with_reducible apply Kp.alloc) | (with_reducible apply Kp.drew) | (with_reducible apply Kp.drewN) | (with_reducible refine Kp.setCell ?_ (by first | (dsimp only; omega) | (simp; omega) | (simp; done) | (simp [size_ext_eq]; omega)) _)))).alloc _) ⟨W1.heap.size + dz W1.heap.size u, 0, none⟩ 1 1 [.int .i64 kq, .slice e2 m2' f2, .slice e3 m3' f3] (by first | rfl | (simp [Act.eval, Act.put]; done)) rfl (lit3 (by simp [size_ext_eq])) (fun u hu => by simp at hu; rcases hu with rfl | rfl | rfl <;> rfl) (by unfold maxLen; omega) (by omega) (by first | (simp [size_ext_eq]; done) | (simp [size_ext_eq]; omega)) ?_
               intro v' w1 hown1 hgrow1 hblk
               have hbx := BoxS.grown (B2W.out.kp (by repeat (first | (with_reducible exact Kp.refl _) | (with_reducible assumption) | (with_reducible apply Kp.ext) | (with_reducible apply Kp.alloc) | (with_reducible apply Kp.drew) | (with_reducible apply Kp.drewN) | (with_reducible refine Kp.setCell ?_ (by first | (dsimp only; omega) | (simp; omega) | (simp; done) | (simp [size_ext_eq]; omega)) _)))) hgrow1 (fun h => by have := (own_lt hownW h).1; omega)
               obtain ⟨g3, cap3, rfl⟩ := own_pos hown1
               have q1' := hbx.c2
               have z1' := hbx.z 2
               have hlt1 := hbx.lt
               have Hbx := Lib.hid hbx
               have Hown1 := Lib.hid hown1
               have Hgrow1 := Lib.hid hgrow1
               have Hblk := Lib.hid hblk
               clear hbx hown1 hgrow1 hblk))
          all_goals
            have hk2 : Kp W1 ((ext W1.drew u).alloc (.cells #[.int .i64 kq, .slice e2 m2' f2, .slice e3 m3' f3] 25)) := (by repeat (first | (with_reducible exact Kp.refl _) | (with_reducible assumption) | (with_reducible apply Kp.ext) | (with_reducible apply Kp.alloc) | (with_reducible apply Kp.drew) | (with_reducible apply Kp.drewN) | (with_reducible refine Kp.setCell ?_ (by first | (dsimp only; omega) | (simp; omega) | (simp; done) | (simp [size_ext_eq]; omega)) _)))
            have hk3 : Kp wr ((ext W1.drew u).alloc (.cells #[.int .i64 kq, .slice e2 m2' f2, .slice e3 m3' f3] 25)) := hkW.trans hk2
            have hkw : Kp w w1 := Below.grown (hkp.trans hk3) Hgrow1.out (Kp.size (hkp.trans hk3)) (fun q hq => by have := (own_lt hownW hq).1; omega)
            have hx : ShB d W1.heap.size (ext W1.drew u).heap.size ((ext W1.drew u).alloc (.cells #[.int .i64 kq, .slice e2 m2' f2, .slice e3 m3' f3] 25)) (.slice e2 m2' f2) (.slice e3 m3' f3) ((qs.map (mapSh (addP c) d)).getD k dsh) := by
              rw [getD_map_sh _ _ hlt]
              exact ShB.keep Hsh.out (Agree.of_kp ((Kp.refl _).alloc _) (Nat.le_refl _)) (by simp)
            have hown3 := Hown1.out
            have hkm2 : ((qs.map (mapSh (addP c) d)).getD k dsh).kind = kq := by rw [getD_map_sh _ _ hlt]; exact Hkm.out
            rw [← hkm2] at hown3
            have HR := Lib.hid ((Rows3.step Hrow.out hk3 hx (by omega) (by omega) (by simp) hown3 Hgrow1.out Hblk.out).other (w' := w1.setCell ⟨w.heap.size + 1 + 1, 2, none⟩ (.slice (some ⟨g3, 0, none⟩) (k + 1) cap3)) (fun b hb => Below.heap_setCell _ _ _ _ (by dsimp only; omega)) (by simp))
            have hb1 := ((Box1'.out.kp hk3).grown Hgrow1.out (fun h => by have := (own_lt hownW h).1; omega)).oth (k := w.heap.size + 1 + 1) (by omega) 2 (.slice (some ⟨g3, 0, none⟩) (k + 1) cap3)
            have hb2 := Hbx.out.set2 (.slice (some ⟨g3, 0, none⟩) (k + 1) cap3)
            have hag2 : Agree (w.heap.size + 1 + 1 + 1) wl.heap.size wl (w1.setCell ⟨w.heap.size + 1 + 1, 2, none⟩ (.slice (some ⟨g3, 0, none⟩) (k + 1) cap3)) :=
              ((Hag.out.trans (Agree.of_kp hk3 hsl)).trans (Agree.of_grown Hgrow1.out (by have := hk3.size; omega) (fun q hq => by have := (own_lt hownW hq).1; omega))).trans (fun b h1 h2 => Below.heap_setCell _ _ _ _ (by dsimp only; omega))
            have Hb1 := Lib.hid hb1
            have Hb2 := Lib.hid hb2
            have Hag2 := Lib.hid hag2
            have hsl2 : wl.heap.size ≤ w1.heap.size := by have := Hgrow1.out.size; have := hk3.size; omega
            clear hown3 hkm2
            clear hx hb1 hb2 hk2 hk3 hag2 r1 r2 hownW x0 x1 x2 zW cW q1' z1'
            go_wp2_with fail
            go_roundw
            case rel => exact ⟨k + 1, _, _, by omega, by go_num, (by repeat (first | (with_reducible exact Kp.refl _) | (with_reducible assumption) | (with_reducible apply Kp.ext) | (with_reducible apply Kp.alloc) | (with_reducible apply Kp.drew) | (with_reducible apply Kp.drewN) | (with_reducible refine Kp.setCell ?_ (by first | (dsimp only; omega) | (simp; omega) | (simp; done) | (simp [size_ext_eq]; omega)) _))), Hb1.out, Hb2.out, Hag2.out, by simpa using hsl2, HR.out⟩
            case measure => simp [intOf]; omega
        · have hkn3 : k = qs.length := by omega
          subst hkn3
          obtain ⟨A1, p0, p1, p2, pz⟩ := id box1
          obtain ⟨B1, q0, q1, q2, qz⟩ := id box2
          have z0 := pz 0
          have z1 := pz 1
          have z2 := pz 2
          obtain ⟨ar, nr, cr, rfl⟩ := own_slc hrow.own
          have Hrow := Lib.hid hrow
          have Hag := Lib.hid hag
          have Box1' := Lib.hid (((box1.set0 (.int .i64 kd)).set1 (.slice al nl cl)).set2 (.slice ar nr cr))
          clear hrow pz qz box1 box2 hag
          go_wp2_with fail
          have hb := Box1'.out
          obtain ⟨_, e0, e1, e2, _⟩ := hb
          refine bodyPost_ret (v := .agg #[.int .i64 kd, .slice al nl cl, .slice ar nr cr]) (by simp [results, Tryz.results7, go_sem, e0, e1, e2]) rfl ⟨_, _, _, rfl, ext_of ?_, ?_⟩
          · show Kp w _
            exact (by repeat (first | (with_reducible exact Kp.refl _) | (with_reducible assumption) | (with_reducible apply Kp.ext) | (with_reducible apply Kp.alloc) | (with_reducible apply Kp.drew) | (with_reducible apply Kp.drewN) | (with_reducible refine Kp.setCell ?_ (by first | (dsimp only; omega) | (simp; omega) | (simp; done) | (simp [size_ext_eq]; omega)) _)))
          · have hr := (Hrow.out.mono (L' := w.heap.size + 1 + 1 + 1) (by omega)).other (w' := ((wr.setCell ⟨w.heap.size + 1, 0, none⟩ (.int .i64 kd)).setCell ⟨w.heap.size + 1, 1, none⟩ (.slice al nl cl)).setCell ⟨w.heap.size + 1, 2, none⟩ (.slice ar nr cr)) (fun b hb => by
              rw [Below.heap_setCell _ _ _ _ (by dsimp only; omega), Below.heap_setCell _ _ _ _ (by dsimp only; omega), Below.heap_setCell _ _ _ _ (by dsimp only; omega)]) (by simp)
            have hls : ListsN (ls.map (List.map (addP c))) (w.heap.size + 1 + 1 + 1) wl.heap.size (((wr.setCell ⟨w.heap.size + 1, 0, none⟩ (.int .i64 kd)).setCell ⟨w.heap.size + 1, 1, none⟩ (.slice al nl cl)).setCell ⟨w.heap.size + 1, 2, none⟩ (.slice ar nr cr)) (.slice al nl cl) :=
              Hlists.out.keep (Hag.out.trans (fun b h1 h2 => by rw [Below.heap_setCell _ _ _ _ (by dsimp only; omega), Below.heap_setCell _ _ _ _ (by dsimp only; omega), Below.heap_setCell _ _ _ _ (by dsimp only; omega)])) (by simpa using hsl)
            have hrl : (qs.map (mapSh (addP c) d)).length = qs.length := List.length_map _
            rw [← hrl] at hr
            have hfin := Rows3.done hr (s := .mk kd (ls.map (List.map (addP c))) (qs.map (mapSh (addP c) d))) (lv := .slice al nl cl) (hls.mono (Nat.le_refl _) (by simpa using hsl)) rfl
            exact ShB.mono hfin (by omega) (Nat.le_refl _)

theorem changed_c : ∀ (d : Nat) (s : Sh) (c : Nat) (lv pv : Value) (w : World), ShIn d w lv pv s → cntOk d s = true → Small d s → AllSh (AddOk c) d s →
    Calls Tryz.prog 7 #[.agg #[.int .i64 s.kind, lv, pv], .float .f64 c] w (RetSh d (mapSh (addP c) d s) w)
  | 0, _, _, _, _, _, _, h, _, _ => by cases h
  | d + 1, s, c, lv, pv, w, hs, hok, hsm, hA =>
    changed_step d s c lv pv w hs hok hsm hA fun i hi lv' pv' w' h => changed_c d _ c lv' pv' w' h ((cntOk_parts hok).2.1 _ (mem_getD' (z := dsh) hi)).1 (hsm.2 _ (mem_getD' (z := dsh) hi)) (hA.part hi)
end Go.Proofs.YtohidpmkoehmcaaGreat
