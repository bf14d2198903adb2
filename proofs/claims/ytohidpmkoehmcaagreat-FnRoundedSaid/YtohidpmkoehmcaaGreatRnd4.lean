/-
  orb.Round of any geometry, impl.Rounded, walked.
-/
import Derived.Test.YtohidpmkoehmcaaGreatRnd3
namespace Go.Proofs.YtohidpmkoehmcaaGreat
open PubFl Go.RowKit

attribute [local go_sem] cell_ext frozen_ext ext_setCell cell_store size_ext_eq lt_p0 lt_p1 lt_p2 lt_p3 lt_p4 lt_p5 lt_p6 lt_p7 lt_p8 lt_p9 lt_p10 lt_p11 lt_p12 lt_p13 lt_p14 lt_p15 lt_p16 lt_p17 lt_p18 lt_p19 lt_p20 lt_p21 lt_p22 lt_p23 lt_p24 lt_p25 lt_p26 lt_p27 lt_p28 lt_p29 lt_p30 lt_p31 lt_p32 lt_q1 lt_q2 lt_q3 lt_q4 lt_q5 lt_q6 lt_q7 lt_q8 lt_q9 lt_q10 lt_q11 lt_q12 lt_q13 lt_q14 lt_q15 lt_q16 lt_q17 lt_q18 lt_q19 lt_q20 lt_q21 lt_q22 lt_q23 lt_q24 lt_q25 lt_q26 lt_q27 lt_q28 lt_q29 lt_q30 lt_q31 lt_q32 run_fop run_store_float
attribute [local go_sem high] cmp_eql cmp_neq cmp_lss cmp_leq cmp_gtr cmp_geq
attribute [local irreducible] rdF goodB canB

theorem RowB.imp {lo hi n : Nat} {E E' : Nat → Nat → Nat → World → Value → Prop} {w : World} {v : Value} (h : RowB E lo hi w v n) (k : ∀ i l h x, i < n → E i l h w x → E' i l h w x) : RowB E' lo hi w v n := by
  obtain ⟨g, cap, hv, h1, h2, h3, h4, h5, h6⟩ := h
  refine ⟨g, cap, hv, h1, h2, h3, h4, h5, fun i hi => ?_⟩
  obtain ⟨x, l, h, c, e, r⟩ := h6 i hi
  exact ⟨x, l, h, c, k i l h x hi e, r⟩
theorem rdV_ifc (t : TypeId) (u : Value) : ∃ u', rdV (.iface t u) = .iface t u' := by
  unfold rdV
  split
  · rename_i h; cases h
  · rename_i h; cases h; exact ⟨_, rfl⟩
  · exact ⟨_, rfl⟩
theorem itV_ifc (t : TypeId) (u : Value) : ∀ k, ∃ u', itV k (.iface t u) = .iface t u'
  | 0 => ⟨u, rfl⟩
  | k + 1 => by
    obtain ⟨u', h⟩ := itV_ifc t u k
    show ∃ u', rdV (itV k _) = _
    rw [h]; exact rdV_ifc t u'
theorem rdV_itV {v : Value} (h : rdV (rdV v) = rdV v) : ∀ k, rdV (itV k v) = rdV v
  | 0 => rfl
  | k + 1 => by show rdV (rdV (itV k v)) = _; rw [rdV_itV h k, h]
theorem GeoB.rdV2 {d lo hi : Nat} {w : World} {v : Value} {s : Sh} (h : GeoB d lo hi w v s) (hg : AllSh GoodP d s) : rdV (rdV v) = rdV v := by
  cases d with
  | zero => exact h.elim
  | succ d =>
    rcases h with ⟨hk, x, y, h1, h2, rfl⟩ | ⟨hk, ps, u, h1, h2, rfl, h4⟩ | ⟨hk, u, h1, rfl, h3⟩ | ⟨hk, ps, u, h1, h2, rfl, h4⟩ | ⟨hk, u, h1, rfl, h3⟩ | ⟨hk, u, h1, rfl, h3⟩ | ⟨hk, u, h1, rfl, h3⟩
    · have hp := (hg.1 [(x, y)] (by rw [h1]; simp) (x, y) (by simp)).fix
      show Value.iface _ (.agg #[.float .f64 (rdF (rdF x)), .float .f64 (rdF (rdF y))]) = .iface _ (.agg #[.float .f64 (rdF x), .float .f64 (rdF y)])
      have e1 : rdF (rdF x) = rdF x := hp.1
      have e2 : rdF (rdF y) = rdF y := hp.2
      rw [e1, e2]
    · rw [(PtsB.rdV h4).2, (PtsB.rdV h4).2]
    · rw [(RowB.rdV h3).2, (RowB.rdV h3).2]
    · rw [(PtsB.rdV h4).2, (PtsB.rdV h4).2]
    · rw [(RowB.rdV h3).2, (RowB.rdV h3).2]
    · rw [(RowB.rdV h3).2, (RowB.rdV h3).2]
    · rw [(RowB.rdV h3).2, (RowB.rdV h3).2]
theorem run_store_ifc {P : Program} {w : World} {a : Addr} {m : Mode} (t : TypeId) (v : Value) : (store a (.iface t v) m).run P w = stored P w a (.iface t v) m := run_store P w a _ m rfl

theorem conv_back (w : World) : Sem.run Tryz.prog (convert 29 3 (.float .f64 4607182418800017408)) w = .ok (.int .i64 1) w := by kernel_rfl

set_option maxRecDepth 100000 in
set_option maxHeartbeats 4000000 in
theorem rnd_Collection (d B lo hi F fc : Nat) (u : Value) (qs : List Sh) (hn : qs.length ≤ 40) (w0 w : World) (hB : B ≤ lo) (hs : RowB (fun i l h w x => GeoB d l h w x (qs.getD i dsh)) lo hi w0 u qs.length) (hr : Rd B w0 w)
    (G : ∀ i, i < qs.length → AllSh GoodP d (qs.getD i dsh)) (ok : ∀ i, i < qs.length → cntOk d (qs.getD i dsh) = true) (hF : F < w.heap.size) (hf : w.cell? ⟨F, 0, none⟩ = some (.int .i64 1))
    (ih : ∀ i, i < qs.length → ∀ l h x v F fc w1, GeoB d l h w0 x (qs.getD i dsh) → B ≤ l → Rd B w0 w1 → (∃ j, v = itV j x) → F < w1.heap.size → w1.cell? ⟨F, 0, none⟩ = some (.int .i64 1) →
      Calls Tryz.prog 19 #[v, .slice (some ⟨F, 0, none⟩) 1 fc] w1 (RoundPost B (rdV x) (GeoB d l h · (rdV x) (mapSh rdP d (qs.getD i dsh))) w1)) :
    Calls Tryz.prog 19 #[.iface 69 u, .slice (some ⟨F, 0, none⟩) 1 fc] w (RoundPost B (.iface 69 u) (RowB (fun i l h w x => GeoB d l h w x (mapSh rdP d (qs.getD i dsh))) lo hi · u qs.length) w) := by
  obtain ⟨g, cap, q, rfl, h1, h2, h3, h4, h5, h6⟩ := RowB.pick hs
  have Hr := Lib.hid hr
  have HG := Lib.hid G
  have Hok := Lib.hid ok
  have H5 := Lib.hid h5
  have H6 := Lib.hid h6
  have Ih := Lib.hid ih
  have hc1 := conv1 w
  have hcv := conv_back
  have hgw : g < w.heap.size := Nat.lt_of_lt_of_le h3 hr.size
  have hsi := fun (w : World) (a : Addr) (m : Mode) (t : TypeId) (v : Value) => run_store_ifc (P := Tryz.prog) (w := w) (a := a) (m := m) t v
  unfold oneF at hc1
  clear hs hr G h5 h6 ih ok
  have t_Point := tas_Collection_Point
  have t_MultiPoint := tas_Collection_MultiPoint
  have t_LineString := tas_Collection_LineString
  have t_MultiLineString := tas_Collection_MultiLineString
  have t_Ring := tas_Collection_Ring
  have t_Polygon := tas_Collection_Polygon
  have t_MultiPolygon := tas_Collection_MultiPolygon
  have t_Collection := tas_Collection_Collection
  have hnil := eqnil 69 _ Tryz.underlying69
  go_enter Tryz.func19, Tryz.ntmps19
  go_wp2_with fail
  go_loopw [148] (fun si wr => ∃ k : Nat, k ≤ qs.length ∧ si = .int .i64 (k : Nat) ∧ RowR B g w wr q (fun i l h w x => GeoB d l h w x (mapSh rdP d (qs.getD i dsh))) k) (fun si _ => qs.length - (intOf si).toNat)
  case atStart => exact ⟨0, by omega, rfl, Rd.refl _ _, fun i hi => by omega⟩
  case round =>
    obtain ⟨k, hk, rfl, hrow⟩ := hrel
    by_cases hlt : k < qs.length
    · obtain ⟨c0, c1, c2, c3, c4, c5⟩ := H6.out k hlt
      have hrr := Hr.out.trans hrow.rd
      obtain ⟨j, hj⟩ := hrr.cell g k h3
      rw [c0] at hj
      replace hj : wr.cell? ⟨g, k, none⟩ = some (itV j (q k).1) := hj
      have hgr : g < wr.heap.size := Nat.lt_of_lt_of_le h3 hrr.size
      have hvv := c1.rdV2 (HG.out k hlt)
      obtain ⟨tx, ux, hx⟩ := GeoB.iface c1
      obtain ⟨uj, huj⟩ := itV_ifc tx ux j
      obtain ⟨ur, hur⟩ := rdV_ifc tx ux
      have hcall := Lib.hid (fun w1 (hkw : Kp wr w1) (F : Nat) fc (hF : F < w1.heap.size) hf => Ih.out k hlt (q k).2.1 (q k).2.2 (q k).1 (itV j (q k).1) F fc w1 c1 (by omega) (hrr.kp hkw) ⟨j, rfl⟩ hF hf)
      have hfz := (hrr.fz g k h3).trans (H5.out k)
      have Hvv := Lib.hid hvv
      have Hc1 := Lib.hid c1
      have Hc5 := Lib.hid c5
      have Hj := Lib.hid hj
      have Hrow := Lib.hid hrow
      have Hrr := Lib.hid hrr
      rw [hx] at hcall hj
      rw [huj] at hcall hj
      rw [hur] at hcall
      have Hx := Lib.hid hx
      have Hur := Lib.hid hur
      clear c0 c1 hrow hrr hvv hx huj hur c5
      go_wp2_with (go_at_call 19; (with_reducible refine (hcall.out _ (by repeat (first | (with_reducible exact Kp.refl _) | (with_reducible assumption) | (with_reducible apply Kp.ext) | (with_reducible apply Kp.alloc) | (with_reducible apply Kp.drew) | (with_reducible apply Kp.drewN) | (with_reducible refine Kp.setCell ?_ (by first | (dsimp only; omega) | (simp; omega) | (simp; done) | (simp [size_ext_eq]; omega)) _))) _ _ (by simp) (by simp)).mono ?_); rintro e w2 ⟨rfl, hr2, hp2⟩; have hr3 := (Rd.of_kp (B := B) (show Kp wr (wr.alloc (.cells #[.int .i64 1] 3)) from (by repeat (first | (with_reducible exact Kp.refl _) | (with_reducible assumption) | (with_reducible apply Kp.ext) | (with_reducible apply Kp.alloc) | (with_reducible apply Kp.drew) | (with_reducible apply Kp.drewN) | (with_reducible refine Kp.setCell ?_ (by first | (dsimp only; omega) | (simp; omega) | (simp; done) | (simp [size_ext_eq]; omega)) _))))).trans hr2; have hg2 : g < w2.heap.size := Nat.lt_of_lt_of_le hgr hr3.size; obtain ⟨j2, hj2⟩ := hr3.cell g k hgr; rw [Hj.out] at hj2; have Hj2 := Lib.hid hj2; have cj : ∃ v, w2.cell? ⟨g, k, none⟩ = some v := ⟨_, hj2⟩; clear hj2; obtain ⟨vj, cj⟩ := cj; have fz2 := (hr3.fz g k hgr).trans hfz; have Hr3 := Lib.hid hr3; have Hp2 := Lib.hid hp2; clear hr2 hr3 hp2)
      go_roundw
      case rel =>
        have hstep : Rd B w2 (w2.setCell ⟨g, k, none⟩ (.iface tx ur)) := by
          have h := Rd.step (B := B) (w := w2) (b := g) (o := k) (by omega) (show w2.cell? ⟨g, k, none⟩ = some (itV (j + j2) (q k).1) by
            rw [Hj2.out]
            show some _ = some _
            rw [itV_add])
          rw [rdV_itV Hvv.out, Hx.out, Hur.out] at h
          exact h
        refine ⟨k + 1, by omega, by go_num, Hrow.out.next hgr (Hr3.out.trans hstep) (fun i hi e => GeoB.fix e (AllSh.map (fun _ h => h.fix) (HG.out i (by omega))) (mapSh_cntOk d _ (Hok.out i (by omega))) (Hr3.out.trans hstep)) ⟨?_, ?_⟩⟩
        · rw [cell_store, cj, Hx.out, Hur.out]; rfl
        · rw [Hx.out, Hur.out]
          exact GeoB.keep Hp2.out (fun b b1 b2 => Below.heap_setCell _ _ _ _ (fun e => by have := Hc5.out; dsimp only at e; omega)) (by simp)
      case measure => simp [intOf]; omega
    · obtain rfl : k = qs.length := by omega
      have Hrow := Lib.hid hrow
      clear hrow
      go_wp2_with fail
      go_ret
      exact ⟨rfl, Hrow.out.rd, RowR.row (E := fun i l h w x => GeoB d l h w x (qs.getD i dsh)) Hrow.out Hr.out h1 h2 h3 h4 H5.out H6.out⟩

theorem polyR_of {d : Nat} {qs : List Sh} {lo hi : Nat} {w : World} {v : Value} (hd : ∀ i, i < qs.length → ∃ e, d = e + 1) (h : RowB (PolyR qs) lo hi w v qs.length) : RowB (PolyE (qs.map (mapSh rdP d))) lo hi w v (qs.map (mapSh rdP d)).length := by
  rw [List.length_map]
  refine RowB.imp h fun i l h x hi e => ?_
  obtain ⟨e', rfl⟩ := hd i hi
  unfold PolyE
  rw [getD_map_sh _ _ hi, mapSh_lists]
  exact e
theorem colR_of {d : Nat} {qs : List Sh} {lo hi : Nat} {w : World} {v : Value} (h : RowB (fun i l h w x => GeoB d l h w x (mapSh rdP d (qs.getD i dsh))) lo hi w v qs.length) : RowB (fun i l h w x => GeoB d l h w x ((qs.map (mapSh rdP d)).getD i dsh)) lo hi w v (qs.map (mapSh rdP d)).length := by
  rw [List.length_map]
  refine RowB.imp h fun i l h x hi e => ?_
  rw [getD_map_sh _ _ hi]
  exact e

/-- orb.Round of any geometry -/
theorem orbRound_c : ∀ (d : Nat) (s : Sh) (lo hi : Nat) (v0 v : Value) (B : Nat) (w0 w : World) (F fc : Nat), GeoB d lo hi w0 v0 s → AllSh GoodP d s → cntOk d s = true → Small d s → B ≤ lo → Rd B w0 w → (∃ j, v = itV j v0) → F < w.heap.size → w.cell? ⟨F, 0, none⟩ = some (.int .i64 1) →
    Calls Tryz.prog 19 #[v, .slice (some ⟨F, 0, none⟩) 1 fc] w (RoundPost B (rdV v0) (GeoB d lo hi · (rdV v0) (mapSh rdP d s)) w)
  | 0, _, _, _, _, _, _, _, _, _, _, h, _, _, _, _, _, _, _, _ => h.elim
  | d + 1, s, lo, hi, v0, v, B, w0, w, F, fc, hg, hG, hok, hsm, hB, hr, ⟨j, hj⟩, hF, hf => by
    have hpa := (cntOk_parts hok).2.1
    obtain ⟨_, _, n1, n2⟩ := shHead_spec (cntOk_parts hok).1
    obtain ⟨sl, sp⟩ := hsm
    have hk' := mapSh_kind (f := rdP) (d + 1) s
    rcases hg with ⟨hk, x, y, h1, h2, rfl⟩ | ⟨hk, ps, u, h1, h2, rfl, h4⟩ | ⟨hk, u, h1, rfl, h3⟩ | ⟨hk, ps, u, h1, h2, rfl, h4⟩ | ⟨hk, u, h1, rfl, h3⟩ | ⟨hk, u, h1, rfl, h3⟩ | ⟨hk, u, h1, rfl, h3⟩
    · have hp := hG.1 [(x, y)] (by rw [h1]; simp) (x, y) (by simp)
      have key : ∃ c c', v = .iface 51 (.agg #[.float .f64 c, .float .f64 c']) ∧ canB c = true ∧ canB c' = true ∧ rdF c = rdF x ∧ rdF c' = rdF y := by
        rw [hj]
        clear hj
        obtain ⟨a1, a2, a3⟩ := goodB_spec hp.1
        obtain ⟨b1, b2, b3⟩ := goodB_spec hp.2
        cases j with
        | zero => exact ⟨x, y, rfl, a1, b1, rfl, rfl⟩
        | succ j =>
          refine ⟨rdF x, rdF y, ?_, a2, b2, a3, b3⟩
          show rdV (itV j _) = _
          rw [rdV_itV (by
            show Value.iface _ (.agg #[.float .f64 (rdF (rdF x)), .float .f64 (rdF (rdF y))]) = .iface _ (.agg #[.float .f64 (rdF x), .float .f64 (rdF y)])
            rw [show rdF (rdF x) = rdF x from a3, show rdF (rdF y) = rdF y from b3])]
          rfl
      obtain ⟨c, c', rfl, e1, e2, e3, e4⟩ := key
      refine (rnd_Point B F fc c c' w e1 e2 hF hf).mono fun e w' ⟨he, hrd, _⟩ => ⟨?_, hrd, .inl ⟨hk'.trans hk, rdF x, rdF y, by rw [mapSh_lists, h1]; rfl, by rw [mapSh_parts, h2]; rfl, rfl⟩⟩
      rw [he, e3, e4]; rfl
    · obtain ⟨hv1, hv2⟩ := PtsB.rdV h4
      rw [itV_fix (hv2 _)] at hj
      subst hj
      rw [hv2]
      obtain ⟨g, cap, rfl, _⟩ := id h4
      exact (rnd_LineString B ⟨g, 0, none⟩ ps.length cap F fc (fun w' => PtsB lo hi w' (.slice (some ⟨g, 0, none⟩) ps.length cap) (ps.map rdP)) w hF hf (fun w' k => roundPtsB_c B lo hi _ ps (sl _ (by rw [h1]; simp)) w0 w' hB h4 (hr.kp k) (hG.1 ps (by rw [h1]; simp)))).mono
        fun e w' ⟨he, hrd, hp⟩ => ⟨he, hrd, .inr (.inl ⟨hk'.trans hk, ps.map rdP, _, by rw [mapSh_lists, h1]; rfl, by rw [mapSh_parts, h2]; rfl, rfl, hp⟩)⟩
    · obtain ⟨hv1, hv2⟩ := RowB.rdV h3
      rw [itV_fix (hv2 _)] at hj
      subst hj
      rw [hv2]
      exact (rnd_Polygon B lo hi F fc u s.lists n1 sl w0 w hB h3 hr hG.1 hF hf).mono
        fun e w' ⟨he, hrd, hp⟩ => ⟨he, hrd, .inr (.inr (.inl ⟨hk'.trans hk, u, by rw [mapSh_parts, h1]; rfl, rfl, hp⟩))⟩
    · obtain ⟨hv1, hv2⟩ := PtsB.rdV h4
      rw [itV_fix (hv2 _)] at hj
      subst hj
      rw [hv2]
      obtain ⟨g, cap, rfl, _⟩ := id h4
      exact (rnd_MultiPoint B ⟨g, 0, none⟩ ps.length cap F fc (fun w' => PtsB lo hi w' (.slice (some ⟨g, 0, none⟩) ps.length cap) (ps.map rdP)) w hF hf (fun w' k => roundPtsB_c B lo hi _ ps (sl _ (by rw [h1]; simp)) w0 w' hB h4 (hr.kp k) (hG.1 ps (by rw [h1]; simp)))).mono
        fun e w' ⟨he, hrd, hp⟩ => ⟨he, hrd, .inr (.inr (.inr (.inl ⟨hk'.trans hk, ps.map rdP, _, by rw [mapSh_lists, h1]; rfl, by rw [mapSh_parts, h2]; rfl, rfl, hp⟩)))⟩
    · obtain ⟨hv1, hv2⟩ := RowB.rdV h3
      rw [itV_fix (hv2 _)] at hj
      subst hj
      rw [hv2]
      exact (rnd_MultiLineString B lo hi F fc u s.lists n1 sl w0 w hB h3 hr hG.1 hF hf).mono
        fun e w' ⟨he, hrd, hp⟩ => ⟨he, hrd, .inr (.inr (.inr (.inr (.inl ⟨hk'.trans hk, u, by rw [mapSh_parts, h1]; rfl, rfl, hp⟩))))⟩
    · obtain ⟨hv1, hv2⟩ := RowB.rdV h3
      rw [itV_fix (hv2 _)] at hj
      subst hj
      rw [hv2]
      have hq : ∀ p ∈ s.parts, ∃ e, d = e + 1 ∧ p.lists.length ≤ 40 ∧ (∀ l ∈ p.lists, l.length ≤ 300) ∧ ∀ l ∈ p.lists, ∀ q ∈ l, GoodP q := fun p hp => by
        obtain ⟨e, rfl, _, _, l40⟩ := poly_part' hk (hpa p hp)
        exact ⟨e, rfl, l40, (sp p hp).1, (hG.2 p hp).1⟩
      exact (rnd_MultiPolygon B lo hi F fc u s.parts n2 (fun p hp => by obtain ⟨_, _, a, b, _⟩ := hq p hp; exact ⟨a, b⟩) w0 w hB h3 hr (fun p hp => by obtain ⟨_, _, _, _, c⟩ := hq p hp; exact c) hF hf).mono
        fun e w' ⟨he, hrd, hp⟩ => ⟨he, hrd, .inr (.inr (.inr (.inr (.inr (.inl ⟨hk'.trans hk, u, by rw [mapSh_lists, h1]; rfl, rfl, polyR_of (fun i hi => by obtain ⟨e, h, _⟩ := hq _ (mem_getD' (z := dsh) hi); exact ⟨e, h⟩) hp⟩)))))⟩
    · obtain ⟨hv1, hv2⟩ := RowB.rdV h3
      rw [itV_fix (hv2 _)] at hj
      subst hj
      rw [hv2]
      exact (rnd_Collection d B lo hi F fc u s.parts n2 w0 w hB h3 hr (fun i hi => hG.part hi) (fun i hi => (hpa _ (mem_getD' (z := dsh) hi)).1) hF hf (fun i hi l h x v F fc w1 hx hBl hr1 hjj hF1 hf1 =>
          orbRound_c d _ l h x v B w0 w1 F fc hx (hG.part hi) (hpa _ (mem_getD' (z := dsh) hi)).1 (sp _ (mem_getD' (z := dsh) hi)) hBl hr1 hjj hF1 hf1)).mono
        fun e w' ⟨he, hrd, hp⟩ => ⟨he, hrd, .inr (.inr (.inr (.inr (.inr (.inr ⟨hk'.trans hk, u, by rw [mapSh_lists, h1]; rfl, rfl, colR_of hp⟩)))))⟩
end Go.Proofs.YtohidpmkoehmcaaGreat
