/-
  The rings of a polygon, as FnArea wants them: twice the area of each, not nought.
  impl.Area of polygons, of points, of a line.
-/
import Derived.Test.YtohidpmkoehmcaaGreatDoorAof
import Derived.Test.YtohidpmkoehmcaaGreatDoorGeo3
set_option linter.all false
namespace Go.Proofs.YtohidpmkoehmcaaGreatDoor
open PubFl Go.RowKit

attribute [local go_sem] cell_ext frozen_ext ext_setCell cell_store size_ext_eq lt_p0 lt_p1 lt_p2 lt_p3 lt_p4 lt_p5 lt_p6 lt_p7 lt_p8 lt_p9 lt_p10 lt_p11 lt_p12 lt_p13 lt_p14 lt_p15 lt_p16 lt_p17 lt_p18 lt_p19 lt_p20 lt_p21 lt_p22 lt_p23 lt_p24 lt_p25 lt_p26 lt_p27 lt_p28 lt_p29 lt_p30 lt_p31 lt_p32 lt_q1 lt_q2 lt_q3 lt_q4 lt_q5 lt_q6 lt_q7 lt_q8 lt_q9 lt_q10 lt_q11 lt_q12 lt_q13 lt_q14 lt_q15 lt_q16 lt_q17 lt_q18 lt_q19 lt_q20 lt_q21 lt_q22 lt_q23 lt_q24 lt_q25 lt_q26 lt_q27 lt_q28 lt_q29 lt_q30 lt_q31 lt_q32 run_fop run_store_float
attribute [local go_sem high] cmp_eql cmp_neq cmp_lss cmp_leq cmp_gtr cmp_geq

/-- twice the area of a ring -/
def dblP (P : Nat → Int × Int) (n : Nat) : Int := sumTo (crossT (fun i => (P i).1) (fun i => (P i).2)) n
/-- a simple ring -/
structure RingD (ps : List (Nat × Nat)) (P : Nat → Int × Int) : Prop extends RingP ps P where
  ne : dblP P (ps.length - 1) ≠ 0
theorem sgn_zero : sgn 0 = 0 := rfl
theorem simple_ex2 (ps : List (Nat × Nat)) (hn : ps.length ≤ 2147483647) (hbits : Bits ps) : ∃ r : Bool, (∀ (a : Option Addr) (cap : Nat) (w : World), PtsIn w a ps → Calls Tryz.prog 11 #[.slice a ps.length cap] w (Ret w (.bool r))) ∧
    (r = true → ∃ P : Nat → Int × Int, RingD ps P) := by
  cases hR : ringB ps
  · exact ⟨false, fun a cap w hs => notRing_c a cap ps hn hbits hR w hs, fun h => by cases h⟩
  · obtain ⟨h4, hle, P, hP, hc⟩ := ring_intw ps hbits hR
    have F := simp_facts (fun i => P i) (ps.length - 1) (sgn (sumTo (crossT (fun i => (P i).1) (fun i => (P i).2)) (ps.length - 1)))
    refine ⟨simpleI (fun i => P i) (ps.length - 1) (sgn (sumTo (crossT (fun i => (P i).1) (fun i => (P i).2)) (ps.length - 1))), fun a cap w hs => ?_, fun h => ⟨P, ⟨h4, hle, hP, hc⟩, fun h0 => ?_⟩⟩
    · obtain ⟨b, off, rfl, hb, hpt⟩ := hs.cells (by omega)
      exact isSimple_c b off cap ps h4 hle w hb hpt hbits hR _ _ hP.pts _ (simp_facts _ _ _)
    · unfold dblP at h0
      rw [F.zero (by rw [h0]; rfl)] at h
      cases h
/-- so are all of them, where the polygon is one -/
def SimpleD (ls : List (List (Nat × Nat))) (rs : Nat → Bool) : Prop := ∀ (i : Nat) (h : i < ls.length), rs i = true → ∃ P : Nat → Int × Int, RingD (ls[i]'h) P
theorem simple_all2 (ls : List (List (Nat × Nat))) (hf : ∀ (i : Nat) (h : i < ls.length), (ls[i]'h).length ≤ 2147483647 ∧ Bits (ls[i]'h)) : ∃ rs, SimpleAt ls rs ∧ SimpleD ls rs := by
  have : ∀ i, i < ls.length → ∃ r : Bool, (∀ (a : Option Addr) (cap : Nat) (w : World), PtsIn w a (ls.getD i []) → Calls Tryz.prog 11 #[.slice a (ls.getD i []).length cap] w (Ret w (.bool r))) ∧ (r = true → ∃ P : Nat → Int × Int, RingD (ls.getD i []) P) := fun i hi => by
    rw [getD_l _ _ hi]
    exact simple_ex2 _ (hf i hi).1 (hf i hi).2
  obtain ⟨rs, h⟩ := Go.Deep.choose_lt this
  refine ⟨rs, fun i hi => ?_, fun i hi => ?_⟩
  · have := h i hi
    rw [getD_l _ _ hi] at this
    exact ⟨this.1, fun k => by obtain ⟨P, hP⟩ := this.2 k; exact ⟨P, hP.toRingP⟩⟩
  · have := h i hi
    rw [getD_l _ _ hi] at this
    exact this.2
theorem isPoly_facts2 {s : Sh} {rs : Nat → Bool} (hrs : SimpleD s.lists rs) (h : isPolyB s rs = true) : ∃ Ps : Nat → Nat → Int × Int, ∀ (i : Nat) (h : i < s.lists.length), RingD (s.lists[i]'h) (Ps i) := by
  unfold isPolyB at h
  simp only [Bool.and_eq_true, decide_eq_true_eq, List.all_eq_true] at h
  obtain ⟨⟨⟨⟨h1, h2⟩, h3⟩, h4⟩, h5⟩ := h
  have : ∀ i, i < s.lists.length → ∃ P : Nat → Int × Int, RingD (s.lists.getD i []) P := fun i hi => by
    rw [getD_l _ _ hi]; exact hrs i hi (h5 i (List.mem_range.2 hi))
  obtain ⟨Ps, h⟩ := Go.Deep.choose_lt this
  exact ⟨Ps, fun i hi => by have := h i hi; rwa [getD_l _ _ hi] at this⟩

theorem dbl_bd {ps : List (Nat × Nat)} {P : Nat → Int × Int} (h : RingD ps P) : sumTo (offT (fun i => (P i).1) (fun i => (P i).2)) (ps.length - 2) = dblP P (ps.length - 1) ∧ (dblP P (ps.length - 1)).natAbs ≤ 8000000000 := by
  have hi := h.pts.pts
  have h4 := h.lo
  have hle := h.hi
  have hcl := h.cl
  have hD : sumTo (offT (fun i => (P i).1) (fun i => (P i).2)) (ps.length - 2) = dblP P (ps.length - 1) := by
    have := off_closed (fun i => (P i).1) (fun i => (P i).2) (ps.length - 2) (by rw [show ps.length - 2 + 1 = ps.length - 1 by omega, hcl]) (by rw [show ps.length - 2 + 1 = ps.length - 1 by omega, hcl])
    rwa [show ps.length - 2 + 1 = ps.length - 1 by omega] at this
  refine ⟨hD, ?_⟩
  rw [← hD]
  have hb := sumTo_abs (t := offT (fun i => (P i).1) (fun i => (P i).2)) (m := 8000000) (n := ps.length - 2) fun i hik => by
    have := offT_bd hi i (by omega)
    unfold offT
    dsimp only at this ⊢
    omega
  omega
/-- a ring in memory -/
theorem ring_at {ps : List (Nat × Nat)} {P : Nat → Int × Int} (h : RingD ps P) (w : World) (R i g c : Nat) (hc : w.cell? ⟨R, i, none⟩ = some (.slice (some ⟨g, 0, none⟩) ps.length c)) (hg : g < w.heap.size) (hpt : PtsAt w g 0 ps) : RingAt w R i (dblP P (ps.length - 1)) := by
  have hi := h.pts.pts
  have h4 := h.lo
  have hle := h.hi
  obtain ⟨hD, hb⟩ := dbl_bd h
  obtain ⟨s0, hA⟩ := areaIs_of (by omega) (by omega) hi
  have hv := hA.v
  rw [hD] at hv
  have hx := sumTo_abs (t := momT (fun i => (P i).1) (fun i => (P i).1) (fun i => (P i).2)) (m := 32000000000) (n := ps.length - 2) fun i hik => momT_bd hi (fun i h => (hi i h).2.2.1) i (by omega)
  have hy := sumTo_abs (t := momT (fun i => (P i).2) (fun i => (P i).1) (fun i => (P i).2)) (m := 32000000000) (n := ps.length - 2) fun i hik => momT_bd hi (fun i h => (hi i h).2.2.2) i (by omega)
  obtain ⟨u0, u1, r0, r1⟩ := hi 0 (by omega)
  refine ⟨⟨g, ps.length, c, s0, hc, fun w' hk => ?_, fun w' hk => lsc_c g 0 c ps hle (by omega) w' (Nat.lt_of_lt_of_le hg hk.size) (hpt.kp hg hk) _ _ hi, hv⟩, hb, h.ne⟩
  refine (ringCentroid2_c g 0 c ps (by omega) (by omega) w' (Nat.lt_of_lt_of_le hg hk.size) (hpt.kp hg hk) _ _ hi s0 hA.v hA.z).mono ?_
  rintro e w2 ⟨cx, cy, he, hM, hu⟩
  obtain ⟨b1, b2⟩ := mid_bd hM (by rw [hD]; exact h.ne) (by rw [hD]; omega) (by omega) (by omega) u0 u1 r0 r1
  exact ⟨cx, cy, he, b1, b2, hu⟩
end Go.Proofs.YtohidpmkoehmcaaGreatDoor

set_option linter.all false
namespace Go.Proofs.YtohidpmkoehmcaaGreatDoor
open PubFl Go.RowKit

attribute [local go_sem] cell_ext frozen_ext ext_setCell cell_store size_ext_eq lt_p0 lt_p1 lt_p2 lt_p3 lt_p4 lt_p5 lt_p6 lt_p7 lt_p8 lt_p9 lt_p10 lt_p11 lt_p12 lt_p13 lt_p14 lt_p15 lt_p16 lt_p17 lt_p18 lt_p19 lt_p20 lt_p21 lt_p22 lt_p23 lt_p24 lt_p25 lt_p26 lt_p27 lt_p28 lt_p29 lt_p30 lt_p31 lt_p32 lt_q1 lt_q2 lt_q3 lt_q4 lt_q5 lt_q6 lt_q7 lt_q8 lt_q9 lt_q10 lt_q11 lt_q12 lt_q13 lt_q14 lt_q15 lt_q16 lt_q17 lt_q18 lt_q19 lt_q20 lt_q21 lt_q22 lt_q23 lt_q24 lt_q25 lt_q26 lt_q27 lt_q28 lt_q29 lt_q30 lt_q31 lt_q32 run_fop run_store_float
attribute [local go_sem high] cmp_eql cmp_neq cmp_lss cmp_leq cmp_gtr cmp_geq

/-- twice the areas of rings -/
def dblA (ls : List (List (Nat × Nat))) (Ps : Nat → Nat → Int × Int) (i : Nat) : Int := dblP (Ps i) ((ls.getD i []).length - 1)
/-- twice the area of a polygon -/
def polA (ls : List (List (Nat × Nat))) (Ps : Nat → Nat → Int × Int) : Int := ((dblA ls Ps 0).natAbs : Int) - holesTo (dblA ls Ps) (ls.length - 1)
def RingsD (ls : List (List (Nat × Nat))) (Ps : Nat → Nat → Int × Int) : Prop := ∀ (i : Nat) (h : i < ls.length), RingD (ls[i]'h) (Ps i)
theorem lists_pol {ls : List (List (Nat × Nat))} {Ps : Nat → Nat → Int × Int} (hR : RingsD ls Ps) (h0 : 0 < ls.length) (h6 : ls.length ≤ 6) {lo hi : Nat} {v : Value} {w : World} (h : ListsB ls lo hi w v) :
    Calls Tryz.prog 42 #[v] w (PolRet w (polA ls Ps)) := by
  obtain ⟨g, cap, rfl, _, _, hg, _, _, hget⟩ := h
  have hat : ∀ i, i < ls.length → RingAt w g i (dblA ls Ps i) := fun i hi => by
    obtain ⟨x, l, hh, hc, hx, _, _⟩ := hget i hi
    obtain ⟨gi, ci, rfl, _, _, hgi, _, _, hpt⟩ := (show PtsB l hh w x (ls.getD i []) from hx)
    have hr := hR i hi
    have e : ls.getD i [] = ls[i]'hi := getD_l ls i hi
    unfold dblA
    rw [e] at hc hpt ⊢
    exact ring_at hr w g i gi ci hc hgi hpt
  by_cases h1 : ls.length = 1
  · have h := pca1_c g cap w hg (dblA ls Ps 0) (hat 0 (by omega))
    have e : polA ls Ps = ((dblA ls Ps 0).natAbs : Int) := by
      unfold polA
      rw [h1]
      show _ - (0 : Int) = _
      omega
    rw [h1, e]
    exact h
  · exact pcaN_c g cap ls.length (by omega) h6 w hg (dblA ls Ps) hat
/-- a geometry's area is the shape's -/
theorem implArea_c (K : Int) (lv pv : Value) (d : Nat) (s : Sh) (A : Int) (w : World)
    (hg : Calls Tryz.prog 17 #[.agg #[.int .i64 K, lv, pv]] (w.alloc (.cells #[.int .i64 K, lv, pv] 25)) (RetB (w.alloc (.cells #[.int .i64 K, lv, pv] 25)) fun lo hi w v => GeoB (d + 1) lo hi w v s))
    (ha : ∀ (lo hi : Nat) (v : Value) (w' : World), GeoB (d + 1) lo hi w' v s → hi ≤ w'.heap.size → Calls Tryz.prog 18 #[v] w' (AreaV w' A)) :
    Calls Tryz.prog 8 #[.agg #[.int .i64 K, lv, pv]] w (AreaV w A) := by
  have Hg := Lib.hid hg
  have Ha := Lib.hid ha
  clear hg ha
  go_enter Tryz.func8, Tryz.ntmps8
  go_wp2_with (first | (go_at_call 17; (with_reducible refine Hg.out.mono ?_); rintro e w1 ⟨v, u, rfl, hu, hg⟩; have hk1 : Kp w w1 := (by rw [hu]; exact (by repeat (first | (with_reducible exact Kp.refl _) | (with_reducible assumption) | (with_reducible apply Kp.ext) | (with_reducible apply Kp.alloc) | (with_reducible apply Kp.drew) | (with_reducible apply Kp.drewN) | (with_reducible refine Kp.setCell ?_ (by first | (dsimp only; omega) | (simp; omega) | (simp; done) | (simp [size_ext_eq]; omega)) _)))); obtain ⟨tv, uv, rfl⟩ := hg.iface; have Hr := Lib.hid (Ha.out _ _ _ _ hg (Nat.le_refl _)); clear hu hg) | (go_at_call 18; (with_reducible refine Hr.out.mono ?_); rintro e w2 ⟨a, rfl, hv, u2, hu2⟩; have hk2 : Kp w1 w2 := (by rw [hu2]; exact Kp.ext (Kp.refl w1) u2); have Hv := Lib.hid hv; clear hu2 hv))
  go_ret
  exact ⟨a, rfl, Hv.out, _, ext_of (hk1.trans hk2)⟩
/-- .. by kinds -/
theorem geo_area_pol {d lo hi : Nat} {v : Value} {w : World} {s : Sh} {Ps : Nat → Nat → Int × Int} (hg : GeoB (d + 1) lo hi w v s) (hk : s.kind = 3) (hR : RingsD s.lists Ps) (h0 : 0 < s.lists.length) (h6 : s.lists.length ≤ 6) (hle : hi ≤ w.heap.size) :
    Calls Tryz.prog 18 #[v] w (AreaV w (polA s.lists Ps)) := by
  rcases hg with ⟨h, _⟩ | ⟨h, _⟩ | ⟨_, u, _, rfl, hl⟩ | ⟨h, _⟩ | ⟨h, _⟩ | ⟨h, _⟩ | ⟨h, _⟩
  · omega
  · omega
  · exact arPolygon_c u _ w fun w' k => lists_pol hR h0 h6 (RowB.keep (keep_list _) hl (Agree.of_kp k hle) k.size)
  · omega
  · omega
  · omega
  · omega
theorem geo_area_pts {d lo hi : Nat} {v : Value} {w : World} {s : Sh} {ps : List (Nat × Nat)} {x y : Nat → Int} (hg : GeoB (d + 1) lo hi w v s) (hk : s.kind = 4) (hl : s.lists = [ps]) (hn : ps.length ≤ 100) (hpos : 1 ≤ ps.length) (hi' : IntPts ps x y) (hle : hi ≤ w.heap.size) :
    Calls Tryz.prog 18 #[v] w (AreaV w 0) := by
  rcases hg with ⟨h, _⟩ | ⟨h, _⟩ | ⟨h, _⟩ | ⟨_, qs, u, e, _, rfl, hp⟩ | ⟨h, _⟩ | ⟨h, _⟩ | ⟨h, _⟩
  · omega
  · omega
  · omega
  · rw [hl] at e
    obtain rfl : ps = qs := by simpa using e
    obtain ⟨g, cap, rfl, _, _, hg, _, _, hpt⟩ := hp
    exact arMultiPoint_c _ w fun w' k => mpc_c g 0 cap ps hn hpos w' (Nat.lt_of_lt_of_le hg k.size) (hpt.kp hg k) x y hi'
  · omega
  · omega
  · omega
theorem geo_area_line {d lo hi : Nat} {v : Value} {w : World} {s : Sh} {ps : List (Nat × Nat)} {x y : Nat → Int} (hg : GeoB (d + 1) lo hi w v s) (hk : s.kind = 2) (hl : s.lists = [ps]) (hn : ps.length ≤ 100) (hpos : 1 ≤ ps.length) (hi' : IntPts ps x y) (hle : hi ≤ w.heap.size) :
    Calls Tryz.prog 18 #[v] w (AreaV w 0) := by
  rcases hg with ⟨h, _⟩ | ⟨_, qs, u, e, _, rfl, hp⟩ | ⟨h, _⟩ | ⟨h, _⟩ | ⟨h, _⟩ | ⟨h, _⟩ | ⟨h, _⟩
  · omega
  · rw [hl] at e
    obtain rfl : ps = qs := by simpa using e
    obtain ⟨g, cap, rfl, _, _, hg, _, _, hpt⟩ := hp
    exact arLineString_c _ _ _ w fun L w' k hL hc => mlsc_c L 0 1 g cap ps hn hpos w' hL hc (Nat.lt_of_lt_of_le hg k.size) (hpt.kp hg k) x y hi'
  · omega
  · omega
  · omega
  · omega
  · omega
theorem geo_area_mpol {d lo hi : Nat} {v : Value} {w : World} {s : Sh} {A : Nat → Int} (hg : GeoB (d + 1) lo hi w v s) (hk : s.kind = 6) (h6 : s.parts.length ≤ 6) (hA : ∀ i, i < s.parts.length → 0 ≤ A i ∧ A i ≤ 8000000000)
    (hP : ∀ i, i < s.parts.length → ∃ Ps, RingsD (s.parts.getD i dsh).lists Ps ∧ 0 < (s.parts.getD i dsh).lists.length ∧ (s.parts.getD i dsh).lists.length ≤ 6 ∧ polA (s.parts.getD i dsh).lists Ps = A i) (hle : hi ≤ w.heap.size) :
    Calls Tryz.prog 18 #[v] w (AreaV w (areasTo A s.parts.length)) := by
  rcases hg with ⟨h, _⟩ | ⟨h, _⟩ | ⟨h, _⟩ | ⟨h, _⟩ | ⟨h, _⟩ | ⟨_, u, _, rfl, hr⟩ | ⟨h, _⟩
  · omega
  · omega
  · omega
  · omega
  · omega
  · refine arMultiPolygon_c u _ w fun w' k => ?_
    obtain ⟨g, cap, rfl, _, _, hg, _, _, hget⟩ := RowB.keep (keep_poly _) hr (Agree.of_kp k hle) k.size
    refine mpa_c g cap _ h6 w' hg A hA fun i hi => ?_
    obtain ⟨x, l, h, hc, hx, q1, q2, q3, q4⟩ := hget i hi
    obtain ⟨Ps, r1, r2, r3, r4⟩ := hP i hi
    have hx' : ListsB (s.parts.getD i dsh).lists l h w' x := hx
    obtain ⟨g2, c2, hx2, _⟩ := id hx'
    subst hx2
    refine ⟨_, _, _, hc, fun w'' k' => ?_⟩
    rw [← r4]
    exact lists_pol r1 r2 r3 (RowB.keep (keep_list _) hx' (Agree.of_kp k' (by omega)) k'.size)
  · omega
end Go.Proofs.YtohidpmkoehmcaaGreatDoor
