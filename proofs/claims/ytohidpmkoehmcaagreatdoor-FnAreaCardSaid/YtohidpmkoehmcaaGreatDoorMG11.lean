/-
  impl.PolygonsHave: a list of two polygons; planar.MultiPolygonContains.
  laws.FnArea, walked, where nothing is said of areas.
  The shapes that FnArea makes: two polygons, a line, points.
-/
import Derived.Test.YtohidpmkoehmcaaGreatDoorPolyHas
import Derived.Test.YtohidpmkoehmcaaGreatDoorMG10
import Derived.Test.YtohidpmkoehmcaaGreatDoorApp
import Derived.Test.YtohidpmkoehmcaaGreatDoorMG9
set_option linter.all false
namespace Go.Proofs.YtohidpmkoehmcaaGreatDoor
open PubFl Go.RowKit

attribute [local go_sem] cell_ext frozen_ext ext_setCell cell_store size_ext_eq lt_p0 lt_p1 lt_p2 lt_p3 lt_p4 lt_p5 lt_p6 lt_p7 lt_p8 lt_p9 lt_p10 lt_p11 lt_p12 lt_p13 lt_p14 lt_p15 lt_p16 lt_p17 lt_p18 lt_p19 lt_p20 lt_p21 lt_p22 lt_p23 lt_p24 lt_p25 lt_p26 lt_p27 lt_p28 lt_p29 lt_p30 lt_p31 lt_p32 lt_q1 lt_q2 lt_q3 lt_q4 lt_q5 lt_q6 lt_q7 lt_q8 lt_q9 lt_q10 lt_q11 lt_q12 lt_q13 lt_q14 lt_q15 lt_q16 lt_q17 lt_q18 lt_q19 lt_q20 lt_q21 lt_q22 lt_q23 lt_q24 lt_q25 lt_q26 lt_q27 lt_q28 lt_q29 lt_q30 lt_q31 lt_q32 run_fop run_store_float
attribute [local go_sem high] cmp_eql cmp_neq cmp_lss cmp_leq cmp_gtr cmp_geq

/-- polygons in memory, and whether each has the point -/
def PolysAt (w : World) (v : Value) (n : Nat) (lsss : Nat → List (List (Nat × Nat))) : Prop :=
  ∃ g cap, v = .slice (some ⟨g, 0, none⟩) n cap ∧ g < w.heap.size ∧ ∀ i, i < n → ∃ x, w.cell? ⟨g, i, none⟩ = some x ∧ PolyAt w x (lsss i)
theorem PolysAt.kp {w w' : World} {v : Value} {n : Nat} {f : Nat → List (List (Nat × Nat))} (h : PolysAt w v n f) (k : Kp w w') : PolysAt w' v n f := by
  obtain ⟨g, cap, hv, hg, h⟩ := h
  refine ⟨g, cap, hv, Nat.lt_of_lt_of_le hg k.size, fun i hi => ?_⟩
  obtain ⟨x, hc, hp⟩ := h i hi
  exact ⟨x, Kp.cell k hc hg, hp.kp k⟩

theorem any_yes {f : Nat → Bool} {n k : Nat} (hk : k < n) (h : f k = true) : ((List.range n).any f) = true := List.any_eq_true.2 ⟨k, List.mem_range.2 hk, h⟩
def NotTo (f : Nat → Bool) (k : Nat) : Prop := ∀ i, i < k → f i = false
theorem NotTo.succ {f : Nat → Bool} {k : Nat} (h : NotTo f k) (hk : f k = false) : NotTo f (k + 1) := fun i hi => by
  by_cases c : i = k
  · subst c; exact hk
  · exact h i (by omega)
theorem any_no {f : Nat → Bool} {n : Nat} (h : NotTo f n) : ((List.range n).any f) = false := by
  rw [List.any_eq_false]; intro i hi; rw [h i (List.mem_range.1 hi)]; decide

theorem PolyNew.kept {w w1 w2 : World} {v : Value} {lss : List (List (Nat × Nat))} (h : PolyNew w w1 v lss) {base : Nat} {rv : Value} {n : Nat} {xs : List Value} (hrow : w1.ownsRow base 61 1 rv n xs)
    (hg : w1.grownBy w2 rv.ownBlock) : PolyNew w w2 v lss := by
  obtain ⟨vs, hown, hl, hr⟩ := h
  refine ⟨vs, hown.kept hg (own_apart hown hrow (by decide)), hl, fun i hi h' => ?_⟩
  obtain ⟨x, hx, hn⟩ := hr i hi h'
  exact ⟨x, hx, hn.kept hg (own_apart hn hrow (by decide))⟩
theorem PolyNew.kp {w w1 w2 : World} {v : Value} {lss : List (List (Nat × Nat))} (h : PolyNew w w1 v lss) (k : Kp w1 w2) : PolyNew w w2 v lss := by
  obtain ⟨vs, hown, hl, hr⟩ := h
  refine ⟨vs, own_kp hown k, hl, fun i hi h' => ?_⟩
  obtain ⟨x, hx, hn⟩ := hr i hi h'
  exact ⟨x, hx, own_kp hn k⟩
theorem PolyNew.base {w w0 w1 : World} {v : Value} {lss : List (List (Nat × Nat))} (h : PolyNew w w1 v lss) (hb : w0.heap.size ≤ w.heap.size) : PolyNew w0 w1 v lss := by
  obtain ⟨vs, hown, hl, hr⟩ := h
  refine ⟨vs, own_base hown hb, hl, fun i hi h' => ?_⟩
  obtain ⟨x, hx, hn⟩ := hr i hi h'
  exact ⟨x, hx, own_base hn hb⟩
theorem PolyNew.form {w w1 : World} {v : Value} {lss : List (List (Nat × Nat))} (h : PolyNew w w1 v lss) : ∃ a cap, v = .slice a lss.length cap := by
  obtain ⟨vs, hown, _, _⟩ := h
  rcases hown.2 with ⟨h, h0⟩ | ⟨g, cap, cur, hv, _⟩
  · exact ⟨none, 0, by rw [h, h0]⟩
  · exact ⟨_, _, hv⟩
/-- a shape whose lists are a polygon, in three cells -/
structure PartAt (w : World) (g o : Nat) (ls : List (List (Nat × Nat))) : Prop where
  ex : ∃ (kd pv : Value) (a : Option Addr) (cap : Nat), w.cell? ⟨g, o, none⟩ = some kd ∧ w.cell? ⟨g, o + 1, none⟩ = some (.slice a ls.length cap) ∧ w.cell? ⟨g, o + 2, none⟩ = some pv ∧ LissIn w (.slice a ls.length cap) ls ∧ (∃ i : Int, kd = .int .i64 i) ∧ ∃ a' n' c', pv = .slice a' n' c'
def PolysNew (w wr : World) (vs : List Value) (f : Nat → List (List (Nat × Nat))) (k : Nat) : Prop := vs.length = k ∧ ∀ i, i < k → ∃ v, vs[i]? = some v ∧ PolyNew w wr v (f i)
theorem infoPoly : (Tryz.prog.info? 61).map (fun i => (i.zero, i.size, i.bytes)) = some (some (.slice none 0 0), 1, 24) := by kernel_rfl
theorem PolysNew.at {w w' : World} {v : Value} {vs : List Value} {f : Nat → List (List (Nat × Nat))} {n base : Nat} (hown : w'.ownsRow base 61 1 v n vs) (h : PolysNew w w' vs f n) (h0 : 0 < n)
    (hp : ∀ i, i < n → 0 < (f i).length ∧ ∀ (j : Nat) (h : j < (f i).length), 0 < ((f i)[j]'h).length) : PolysAt w' v n f := by
  have hown' := hown
  rcases hown.2 with ⟨_, hz⟩ | ⟨R, cap, cur, rfl, _, hR, _⟩
  · omega
  · refine ⟨R, cap, rfl, ?_, fun i hi => ?_⟩
    · rcases Nat.lt_or_ge R w'.heap.size with k | k
      · exact k
      · rw [Array.getElem?_eq_none k] at hR; cases hR
    · obtain ⟨x, hx, hn⟩ := h.2 i hi
      refine ⟨x, ?_, hn.at (hp i hi).1 (hp i hi).2⟩
      have := hown'.cellAt i (by omega)
      rw [this, hx]

end Go.Proofs.YtohidpmkoehmcaaGreatDoor

set_option linter.all false
namespace Go.Proofs.YtohidpmkoehmcaaGreatDoor
open PubFl Go.RowKit

attribute [local go_sem] cell_ext frozen_ext ext_setCell cell_store size_ext_eq lt_p0 lt_p1 lt_p2 lt_p3 lt_p4 lt_p5 lt_p6 lt_p7 lt_p8 lt_p9 lt_p10 lt_p11 lt_p12 lt_p13 lt_p14 lt_p15 lt_p16 lt_p17 lt_p18 lt_p19 lt_p20 lt_p21 lt_p22 lt_p23 lt_p24 lt_p25 lt_p26 lt_p27 lt_p28 lt_p29 lt_p30 lt_p31 lt_p32 lt_q1 lt_q2 lt_q3 lt_q4 lt_q5 lt_q6 lt_q7 lt_q8 lt_q9 lt_q10 lt_q11 lt_q12 lt_q13 lt_q14 lt_q15 lt_q16 lt_q17 lt_q18 lt_q19 lt_q20 lt_q21 lt_q22 lt_q23 lt_q24 lt_q25 lt_q26 lt_q27 lt_q28 lt_q29 lt_q30 lt_q31 lt_q32 run_fop run_store_float
attribute [local go_sem high] cmp_eql cmp_neq cmp_lss cmp_leq cmp_gtr cmp_geq

theorem half_ltF {x : Nat} {a : Int} (h : IsV x (half a)) : ltF x 0 = decide (a < 0) := by
  have e : half 0 = ((0 : Int) : Rat) := by rw [half_eq]; decide +kernel
  rw [ltF_isV h half_zero]
  refine decide_eq_decide.2 ⟨fun k => ?_, fun k => ?_⟩
  · rw [half_eq, half_eq] at k
    have e0 : ((0 : Int) : Rat) = 0 := rfl
    rw [e0] at k
    rcases (show a < 0 ∨ 0 ≤ a by omega) with c | c
    · exact c
    · have := int_le (a := 0) c
      rw [e0] at this
      grind
  · have := int_le (b := -1) (show a ≤ -1 by omega)
    have e1 : ((-1 : Int) : Rat) = -1 := rfl
    rw [e1] at this
    rw [half_eq, half_eq]
    have e0 : ((0 : Int) : Rat) = 0 := rfl
    rw [e0]
    grind
theorem areaSh_c (kd P : Value) (ls : List (List (Nat × Nat))) (a : Option Addr) (cap : Nat) (w : World) (hl : LissIn w (.slice a ls.length cap) ls) (h0 : 0 < ls.length) (h6 : ls.length ≤ 6) (Ps : Nat → Nat → Int × Int) (hR : RingsD ls Ps) :
    Calls Tryz.prog 6 #[.agg #[kd, .slice a ls.length cap, P]] w (AreaV w (polA ls Ps)) := by
  obtain ⟨L, off, rfl, hL, hcap, hget⟩ := slice_tail hl h0
  refine areaOf_c kd P L off ls.length cap h0 h6 hcap w hL (dblA ls Ps) (fun i hi => ?_) fun i hi => ?_
  · unfold dblA
    rw [getD_l _ _ hi]
    exact (dbl_bd (hR i hi)).2
  · obtain ⟨a', cap', hcell, hin⟩ := hget i hi
    refine ⟨a', _, cap', hcell, fun w' hk => ?_⟩
    unfold dblA
    rw [getD_l _ _ hi]
    have h := hR i hi
    exact doubled_c a' cap' _ (by have := h.hi; omega) (by have := h.lo; omega) w' (hin.kp hk) _ _ h.pts.pts

/-- what is known of a shape before the law asks whether it is a polygon -/
structure ArgA (s : Sh) (w : World) (a1 : Option Addr) (c1 : Nat) (pv : Value) (rs : Nat → Bool) : Prop where
  lists : LissIn w (.slice a1 s.lists.length c1) s.lists
  simple : SimpleD s.lists rs
  poly : ∀ w', Kp w w' → Calls Tryz.prog 5 #[.agg #[.int .i64 s.kind, .slice a1 s.lists.length c1, pv]] w' (Ret w' (.bool (isPolyB s rs)))
theorem argA (s : Sh) (lv pv : Value) (w : World) (hs : ShIn 4 w lv pv s) (hF : fitsB s = true) : ∃ a1 c1 rs, lv = .slice a1 s.lists.length c1 ∧ ArgA s w a1 c1 pv rs := by
  obtain ⟨f1, f2, f3⟩ := fits_lists hF
  have hls := id hs
  obtain ⟨hl, _⟩ := hls
  obtain ⟨a', cap', rfl, _, hget⟩ := hl.get
  obtain ⟨rs, hrs, hrd⟩ := simple_all2 s.lists fun i hi => ⟨f2 i hi, by
    obtain ⟨_, _, _, _, _, _, _, _, _, hb⟩ := hget i hi
    exact hb⟩
  exact ⟨a', cap', rs, rfl, hl, hrd, fun w' hk => isPolygon_c s rs hrs _ _ w' (hs.kp hk)⟩
theorem poly_len {s : Sh} {rs : Nat → Bool} (h : isPolyB s rs = true) : s.kind = 3 ∧ isShB s = true ∧ 0 < s.lists.length ∧ s.lists.length ≤ 6 := by
  unfold isPolyB at h
  simp only [Bool.and_eq_true, decide_eq_true_eq, List.all_eq_true] at h
  obtain ⟨⟨⟨⟨h1, h2⟩, h3⟩, h4⟩, h5⟩ := h
  exact ⟨h1, h2, by omega, h4⟩

end Go.Proofs.YtohidpmkoehmcaaGreatDoor

set_option linter.all false
namespace Go.Proofs.YtohidpmkoehmcaaGreatDoor
open PubFl Go.RowKit

attribute [local go_sem] cell_ext frozen_ext ext_setCell cell_store size_ext_eq lt_p0 lt_p1 lt_p2 lt_p3 lt_p4 lt_p5 lt_p6 lt_p7 lt_p8 lt_p9 lt_p10 lt_p11 lt_p12 lt_p13 lt_p14 lt_p15 lt_p16 lt_p17 lt_p18 lt_p19 lt_p20 lt_p21 lt_p22 lt_p23 lt_p24 lt_p25 lt_p26 lt_p27 lt_p28 lt_p29 lt_p30 lt_p31 lt_p32 lt_q1 lt_q2 lt_q3 lt_q4 lt_q5 lt_q6 lt_q7 lt_q8 lt_q9 lt_q10 lt_q11 lt_q12 lt_q13 lt_q14 lt_q15 lt_q16 lt_q17 lt_q18 lt_q19 lt_q20 lt_q21 lt_q22 lt_q23 lt_q24 lt_q25 lt_q26 lt_q27 lt_q28 lt_q29 lt_q30 lt_q31 lt_q32 run_fop run_store_float
attribute [local go_sem high] cmp_eql cmp_neq cmp_lss cmp_leq cmp_gtr cmp_geq

theorem flat_in {d e : Nat} {w : World} {lv pv : Value} {s : Sh} (hp : s.parts = []) (h : ShIn (d + 1) w lv pv s) : ShIn (e + 1) w lv pv s := by
  obtain ⟨hl, a, cap, hv, hn, _⟩ := h
  exact ⟨hl, a, cap, hv, hn, .inl hp⟩
theorem flat_cnt {d e : Nat} {s : Sh} (hp : s.parts = []) (h : cntOk (d + 1) s = true) : cntOk (e + 1) s = true := by
  obtain ⟨h1, _, h3⟩ := cntOk_parts h
  unfold cntOk
  rw [h1, h3, hp]
  rfl
theorem flat_small {d e : Nat} {s : Sh} (hp : s.parts = []) (h : Small (d + 1) s) : Small (e + 1) s := ⟨h.1, fun p hq => by rw [hp] at hq; cases hq⟩
theorem two_cnt {s t : Sh} (hs : cntOk 1 s = true) (ht : cntOk 1 t = true) (ks : s.kind = 3) (kt : t.kind = 3) : cntOk 2 (.mk 6 [] [s, t]) = true := by
  unfold cntOk
  show (shHead (.mk 6 [] [s, t]) && [s, t].all (fun p => cntOk 1 p && partB 6 p) && formB (.mk 6 [] [s, t])) = true
  simp only [List.all_cons, List.all_nil, hs, ht, partB, ks, kt]
  rfl
theorem one_cnt (k : Int) (hk : k = 2 ∨ k = 4) (ps : List (Nat × Nat)) : cntOk 1 (.mk k [ps] []) = true := by
  rcases hk with rfl | rfl <;> rfl
theorem two_small {s t : Sh} (hs : Small 1 s) (ht : Small 1 t) : Small 2 (.mk 6 [] [s, t]) := by
  refine ⟨fun l hl => (by cases hl), fun p hp => ?_⟩
  have hp' : p = s ∨ p = t := by simpa [Sh.parts] using hp
  rcases hp' with rfl | rfl
  · exact hs
  · exact ht
/-- two polygons in a row of their own -/
theorem two_in {s t : Sh} {w : World} {g n : Nat} {lv pv lv' pv' : Value} (hg : g < w.heap.size) (hs : ShIn 1 w lv pv s) (ht : ShIn 1 w lv' pv' t)
    (q0 : w.cell? ⟨g, 0, none⟩ = some (.int .i64 s.kind)) (q1 : w.cell? ⟨g, 1, none⟩ = some lv) (q2 : w.cell? ⟨g, 2, none⟩ = some pv) (q3 : w.cell? ⟨g, 3, none⟩ = some (.int .i64 t.kind)) (q4 : w.cell? ⟨g, 4, none⟩ = some lv') (q5 : w.cell? ⟨g, 5, none⟩ = some pv') (hn : n = 2) :
    ShIn 2 w (.slice none 0 0) (.slice (some ⟨g, 0, none⟩) n 2) (.mk 6 [] [s, t]) := by
  subst hn
  refine ⟨⟨none, 0, rfl, Nat.zero_le _, .inl rfl⟩, some ⟨g, 0, none⟩, 2, rfl, by show 2 ≤ big; decide, .inr ⟨g, 0, rfl, hg, fun i hi => ?_⟩⟩
  have hi2 : i = 0 ∨ i = 1 := by
    have : i < 2 := hi
    omega
  rcases hi2 with rfl | rfl
  · exact ⟨lv, pv, q0, q1, q2, hs⟩
  · exact ⟨lv', pv', q3, q4, q5, ht⟩
theorem head_in {ls : List (List (Nat × Nat))} {w : World} {a : Option Addr} {cap : Nat} (h : LissIn w (.slice a ls.length cap) ls) (h0 : 0 < ls.length) : LissIn w (.slice a 1 cap) [ls[0]'h0] := by
  obtain ⟨a', cap', hv, hn, h⟩ := h
  obtain ⟨rfl, rfl⟩ : a = a' ∧ cap = cap' := by simpa using hv
  refine ⟨a, cap, rfl, by show 1 ≤ min big cap; omega, ?_⟩
  rcases h with h | ⟨b, off, rfl, hb, h⟩
  · rw [h] at h0; cases h0
  · refine .inr ⟨b, off, rfl, hb, fun i hi => ?_⟩
    have hi0 : i = 0 := by
      have : i < 1 := hi
      omega
    subst hi0
    exact h 0 h0
theorem one_in {k : Int} {ps : List (Nat × Nat)} {w : World} {v : Value} (h : LissIn w v [ps]) : ShIn 1 w v (.slice none 0 0) (.mk k [ps] []) := ⟨h, none, 0, rfl, Nat.zero_le _, .inl rfl⟩
theorem areaS_c (s : Sh) (lv pv : Value) (w : World) (hs : ShIn 4 w lv pv s) (hk : s.kind = 3) (hi : isShB s = true) (h0 : 0 < s.lists.length) (h6 : s.lists.length ≤ 6) (Ps : Nat → Nat → Int × Int) (hR : RingsD s.lists Ps) :
    Calls Tryz.prog 8 #[.agg #[.int .i64 s.kind, lv, pv]] w (AreaV w (polA s.lists Ps)) :=
  implArea_c s.kind lv pv 3 s _ w (geometry_c 4 s lv pv _ (hs.kp (by repeat (first | (with_reducible exact Kp.refl _) | (with_reducible assumption) | (with_reducible apply Kp.ext) | (with_reducible apply Kp.alloc) | (with_reducible apply Kp.drew) | (with_reducible apply Kp.drewN) | (with_reducible refine Kp.setCell ?_ (by first | (dsimp only; omega) | (simp; omega) | (simp; done) | (simp [size_ext_eq]; omega)) _)))) (isSh_facts hi).1 (isSh_facts hi).2) fun _ _ _ _ hg hle => geo_area_pol hg hk hR h0 h6 hle
theorem areaB_c (s t : Sh) (pv : Value) (w : World) (hs : ShIn 2 w (.slice none 0 0) pv (.mk 6 [] [s, t])) (ks : s.kind = 3) (kt : t.kind = 3) (cs : cntOk 1 s = true) (ct : cntOk 1 t = true) (ms : Small 1 s) (mt : Small 1 t)
    (h0 : 0 < s.lists.length) (h6 : s.lists.length ≤ 6) (Ps : Nat → Nat → Int × Int) (hR : RingsD s.lists Ps) (j0 : 0 < t.lists.length) (j6 : t.lists.length ≤ 6) (Qs : Nat → Nat → Int × Int) (hQ : RingsD t.lists Qs)
    (b1 : 0 ≤ polA s.lists Ps ∧ polA s.lists Ps ≤ 8000000000) (b2 : 0 ≤ polA t.lists Qs ∧ polA t.lists Qs ≤ 8000000000) :
    Calls Tryz.prog 8 #[.agg #[.int .i64 6, .slice none 0 0, pv]] w (AreaV w (polA s.lists Ps + polA t.lists Qs)) := by
  have e : polA s.lists Ps + polA t.lists Qs = areasTo (fun i => if i = 0 then polA s.lists Ps else polA t.lists Qs) 2 := by
    show _ = 0 + (if 0 = 0 then _ else _) + (if 1 = 0 then _ else _)
    rw [if_pos rfl, if_neg (by decide)]
    omega
  rw [e]
  refine implArea_c 6 (.slice none 0 0) pv 1 (.mk 6 [] [s, t]) _ w (geometry_c 2 (.mk 6 [] [s, t]) _ pv _ (hs.kp (by repeat (first | (with_reducible exact Kp.refl _) | (with_reducible assumption) | (with_reducible apply Kp.ext) | (with_reducible apply Kp.alloc) | (with_reducible apply Kp.drew) | (with_reducible apply Kp.drewN) | (with_reducible refine Kp.setCell ?_ (by first | (dsimp only; omega) | (simp; omega) | (simp; done) | (simp [size_ext_eq]; omega)) _)))) (two_cnt cs ct ks kt) (two_small ms mt)) fun _ _ _ _ hg hle => ?_
  refine geo_area_mpol (s := .mk 6 [] [s, t]) hg rfl (by show 2 ≤ 6; decide) (fun i hi => ?_) (fun i hi => ?_) hle
  · have hi2 : i = 0 ∨ i = 1 := by
      have : i < 2 := hi
      omega
    rcases hi2 with rfl | rfl
    · rw [if_pos rfl]; exact b1
    · rw [if_neg (by decide)]; exact b2
  · have hi2 : i = 0 ∨ i = 1 := by
      have : i < 2 := hi
      omega
    rcases hi2 with rfl | rfl
    · exact ⟨Ps, hR, h0, h6, by rw [if_pos rfl]; rfl⟩
    · exact ⟨Qs, hQ, j0, j6, by rw [if_neg (by decide)]; rfl⟩
theorem ring_small {ps : List (Nat × Nat)} {P : Nat → Int × Int} (h : RingD ps P) (k : Int) : Small 1 (.mk k [ps] []) := by
  refine ⟨fun l hl => ?_, fun p hp => (by cases hp)⟩
  have : l = ps := by simpa [Sh.lists] using hl
  subst this
  have := h.hi
  omega
theorem areaL_c (ps : List (Nat × Nat)) (P : Nat → Int × Int) (hP : RingD ps P) (lv : Value) (w : World) (hs : LissIn w lv [ps]) :
    Calls Tryz.prog 8 #[.agg #[.int .i64 2, lv, .slice none 0 0]] w (AreaV w 0) :=
  implArea_c 2 lv (.slice none 0 0) 0 (.mk 2 [ps] []) _ w (geometry_c 1 (.mk 2 [ps] []) lv _ _ ((one_in hs).kp (by repeat (first | (with_reducible exact Kp.refl _) | (with_reducible assumption) | (with_reducible apply Kp.ext) | (with_reducible apply Kp.alloc) | (with_reducible apply Kp.drew) | (with_reducible apply Kp.drewN) | (with_reducible refine Kp.setCell ?_ (by first | (dsimp only; omega) | (simp; omega) | (simp; done) | (simp [size_ext_eq]; omega)) _)))) (one_cnt 2 (.inl rfl) ps) (ring_small hP 2)) fun _ _ _ _ hg hle => geo_area_line hg rfl rfl hP.hi (by have := hP.lo; omega) hP.pts.pts hle
theorem areaP_c (ps : List (Nat × Nat)) (P : Nat → Int × Int) (hP : RingD ps P) (lv : Value) (w : World) (hs : LissIn w lv [ps]) :
    Calls Tryz.prog 8 #[.agg #[.int .i64 4, lv, .slice none 0 0]] w (AreaV w 0) :=
  implArea_c 4 lv (.slice none 0 0) 0 (.mk 4 [ps] []) _ w (geometry_c 1 (.mk 4 [ps] []) lv _ _ ((one_in hs).kp (by repeat (first | (with_reducible exact Kp.refl _) | (with_reducible assumption) | (with_reducible apply Kp.ext) | (with_reducible apply Kp.alloc) | (with_reducible apply Kp.drew) | (with_reducible apply Kp.drewN) | (with_reducible refine Kp.setCell ?_ (by first | (dsimp only; omega) | (simp; omega) | (simp; done) | (simp [size_ext_eq]; omega)) _)))) (one_cnt 4 (.inr rfl) ps) (ring_small hP 4)) fun _ _ _ _ hg hle => geo_area_pts hg rfl rfl hP.hi (by have := hP.lo; omega) hP.pts.pts hle
end Go.Proofs.YtohidpmkoehmcaaGreatDoor
