/-
  impl.PolygonsHave: a list of two polygons; planar.MultiPolygonContains.
-/
import Derived.Test.YtnmdgdmnmoghhaaGreatDoorPolyHas
import Derived.Test.YtnmdgdmnmoghhaaGreatDoorOrd
import Derived.Test.YtnmdgdmnmoghhaaGreatDoorApp
namespace Go.Proofs.YtnmdgdmnmoghhaaGreatDoor
open PubFl Go.RowKit

attribute [local go_sem] cell_ext frozen_ext ext_setCell cell_store size_ext_eq lt_p0 lt_p1 lt_p2 lt_p3 lt_p4 lt_p5 lt_p6 lt_p7 lt_p8 lt_p9 lt_p10 lt_p11 lt_p12 lt_p13 lt_p14 lt_p15 lt_p16 lt_p17 lt_p18 lt_p19 lt_p20 lt_p21 lt_p22 lt_p23 lt_p24 lt_p25 lt_p26 lt_p27 lt_p28 lt_p29 lt_p30 lt_p31 lt_p32 lt_q1 lt_q2 lt_q3 lt_q4 lt_q5 lt_q6 lt_q7 lt_q8 lt_q9 lt_q10 lt_q11 lt_q12 lt_q13 lt_q14 lt_q15 lt_q16 lt_q17 lt_q18 lt_q19 lt_q20 lt_q21 lt_q22 lt_q23 lt_q24 lt_q25 lt_q26 lt_q27 lt_q28 lt_q29 lt_q30 lt_q31 lt_q32 run_fop run_store_float
attribute [local go_sem high] cmp_eql cmp_neq cmp_lss cmp_leq cmp_gtr cmp_geq

/-- polygons in memory, and whether each has the point -/
def PolysAt (w : World) (v : Value) (n : Nat) (lsss : Nat → List (List (Nat × Nat))) : Prop :=
  ∃ g cap, v = .slice (some ⟨g, 0, none⟩) n cap ∧ g < w.heap.size ∧ ∀ i, i < n → ∃ x, w.cell? ⟨g, i, none⟩ = some x ∧ PolyAt w x (lsss i)
theorem PolysAt.kp {w w' : World} {v : Value} {n : Nat} {f : Nat → List (List (Nat × Nat))} (h : PolysAt w v n f) (k : Kp w w') : PolysAt w' v n f := by
  obtain ⟨g, cap, hv, hg, h⟩ := h
  refine ⟨g, cap, hv, Nat.lt_of_lt_of_le hg k.size, fun i hi => ?_⟩
  obtain ⟨x, hc, hp⟩ := h i hi
  exact ⟨x, Kp.cell k hc hg, hp.kp k⟩

theorem any_yes {f : Nat → Bool} {n k : Nat} (hk : k < n) (h : f k = true) : ((List.range n).any f) = true := List.any_eq_true.2 ⟨k, List.mem_range.2 hk, h⟩
def NotTo (f : Nat → Bool) (k : Nat) : Prop := ∀ i, i < k → f i = false
theorem NotTo.succ {f : Nat → Bool} {k : Nat} (h : NotTo f k) (hk : f k = false) : NotTo f (k + 1) := fun i hi => by
  by_cases c : i = k
  · subst c; exact hk
  · exact h i (by omega)
theorem any_no {f : Nat → Bool} {n : Nat} (h : NotTo f n) : ((List.range n).any f) = false := by
  rw [List.any_eq_false]; intro i hi; rw [h i (List.mem_range.1 hi)]; decide

set_option maxRecDepth 20000 in
set_option maxHeartbeats 2000000 in
theorem multiContains_c (v : Value) (n : Nat) (hn : n ≤ 1000) (f : Nat → List (List (Nat × Nat))) (w : World) (hv : PolysAt w v n f) (r : Nat → Bool) (px py : Nat)
    (hr : ∀ i, i < n → ∀ (x : Value) (w' : World), PolyAt w' x (f i) → Calls Tryz.prog 25 #[x, .agg #[.float .f64 px, .float .f64 py]] w' (Ret w' (.bool (r i)))) :
    Calls Tryz.prog 28 #[v, .agg #[.float .f64 px, .float .f64 py]] w (Ret w (.bool ((List.range n).any r))) := by
  obtain ⟨g, cap, rfl, hg, hc⟩ := hv
  have Hc := Lib.hid hc
  have Hr := Lib.hid hr
  clear hc hr
  go_enter Tryz.func28, Tryz.ntmps28
  go_wp2_with fail
  go_loopw [9] (fun s9 wr => ∃ k : Nat, k ≤ n ∧ s9 = .int .i64 k ∧ Kp w wr ∧ NewPt w wr w.heap.size px py ∧ NotTo r k) (fun s9 _ => n - (intOf s9).toNat)
  case atStart => exact ⟨0, by omega, rfl, (by repeat (first | (with_reducible exact Kp.refl _) | (with_reducible assumption) | (with_reducible apply Kp.ext) | (with_reducible apply Kp.alloc) | (with_reducible apply Kp.drew) | (with_reducible apply Kp.drewN) | (with_reducible refine Kp.setCell ?_ (by first | (dsimp only; omega) | (simp; omega) | (simp; done) | (simp [size_ext_eq]; omega)) _))), (by repeat (first | assumption | ((with_reducible refine NewPt.at ?_ _ _ _ ?_) <;> (first | (simp; done) | (simp; omega) | omega | (simp [size_ext_eq]; done) | (simp [size_ext_eq]; omega))) | (with_reducible apply NewPt.alloc) | (with_reducible apply NewPt.drew) | (with_reducible apply NewPt.drewN) | (with_reducible apply NewPt.ext) | (with_reducible exact NewPt.store (by assumption) _ _) | (with_reducible refine NewPt.other ?_ (by omega) _ _))), fun i hi => by omega⟩
  case round =>
    obtain ⟨k, hk, rfl, hkp, m, hf⟩ := hrel
    obtain ⟨_, i1, p0, p1, z0, z1⟩ := id m
    have Hf := Lib.hid hf
    clear hf
    have hgr : g < wr.heap.size := Nat.lt_of_lt_of_le hg hkp.size
    by_cases hlt : k < n
    · obtain ⟨x, hx, hp⟩ := Hc.out k hlt
      have hx := Kp.cell hkp hx hg
      obtain ⟨gx, cx, hxv, _⟩ := id hp
      have HR := Lib.hid (fun w' (hk' : Kp wr w') => Hr.out k hlt x w' ((hp.kp hkp).kp hk'))
      subst hxv
      obtain ⟨l1, hl1⟩ : ∃ l, (f k).length = l := ⟨_, rfl⟩
      rw [hl1] at hx HR
      clear hp hl1
      cases c : r k
      · have Hf2 := Lib.hid (Hf.out.succ c)
        rw [c] at HR
        clear c
        go_wp2_with (go_at_call 25; (first | (with_reducible refine (Ret.at_ext (HR.out _ (by repeat (first | (with_reducible exact Kp.refl _) | (with_reducible assumption) | (with_reducible apply Kp.ext) | (with_reducible apply Kp.alloc) | (with_reducible apply Kp.drew) | (with_reducible apply Kp.drewN) | (with_reducible refine Kp.setCell ?_ (by first | (dsimp only; omega) | (simp; omega) | (simp; done) | (simp [size_ext_eq]; omega)) _))))).mono ?_) | (with_reducible refine (HR.out _ (by repeat (first | (with_reducible exact Kp.refl _) | (with_reducible assumption) | (with_reducible apply Kp.ext) | (with_reducible apply Kp.alloc) | (with_reducible apply Kp.drew) | (with_reducible apply Kp.drewN) | (with_reducible refine Kp.setCell ?_ (by first | (dsimp only; omega) | (simp; omega) | (simp; done) | (simp [size_ext_eq]; omega)) _)))).mono ?_)); rintro e w' ⟨rfl, u, rfl⟩)
        go_roundw
        case rel => exact ⟨k + 1, by omega, by go_num, (by repeat (first | (with_reducible exact Kp.refl _) | (with_reducible assumption) | (with_reducible apply Kp.ext) | (with_reducible apply Kp.alloc) | (with_reducible apply Kp.drew) | (with_reducible apply Kp.drewN) | (with_reducible refine Kp.setCell ?_ (by first | (dsimp only; omega) | (simp; omega) | (simp; done) | (simp [size_ext_eq]; omega)) _))), m.ext _, Hf2.out⟩
        case measure => simp [intOf]; omega
      · have Hy := Lib.hid (any_yes hlt c)
        rw [c] at HR
        clear c
        go_wp2_with (go_at_call 25; (first | (with_reducible refine (Ret.at_ext (HR.out _ (by repeat (first | (with_reducible exact Kp.refl _) | (with_reducible assumption) | (with_reducible apply Kp.ext) | (with_reducible apply Kp.alloc) | (with_reducible apply Kp.drew) | (with_reducible apply Kp.drewN) | (with_reducible refine Kp.setCell ?_ (by first | (dsimp only; omega) | (simp; omega) | (simp; done) | (simp [size_ext_eq]; omega)) _))))).mono ?_) | (with_reducible refine (HR.out _ (by repeat (first | (with_reducible exact Kp.refl _) | (with_reducible assumption) | (with_reducible apply Kp.ext) | (with_reducible apply Kp.alloc) | (with_reducible apply Kp.drew) | (with_reducible apply Kp.drewN) | (with_reducible refine Kp.setCell ?_ (by first | (dsimp only; omega) | (simp; omega) | (simp; done) | (simp [size_ext_eq]; omega)) _)))).mono ?_)); rintro e w' ⟨rfl, u, rfl⟩)
        go_ret
        exact Ret.mk (by rw [Hy.out]; rfl) (by repeat (first | (with_reducible exact Kp.refl _) | (with_reducible assumption) | (with_reducible apply Kp.ext) | (with_reducible apply Kp.alloc) | (with_reducible apply Kp.drew) | (with_reducible apply Kp.drewN) | (with_reducible refine Kp.setCell ?_ (by first | (dsimp only; omega) | (simp; omega) | (simp; done) | (simp [size_ext_eq]; omega)) _)))
    · obtain rfl : k = n := by omega
      have Hy := Lib.hid (any_no Hf.out)
      go_wp2_with fail
      go_ret
      exact Ret.mk (by rw [Hy.out]; rfl) (by repeat (first | (with_reducible exact Kp.refl _) | (with_reducible assumption) | (with_reducible apply Kp.ext) | (with_reducible apply Kp.alloc) | (with_reducible apply Kp.drew) | (with_reducible apply Kp.drewN) | (with_reducible refine Kp.setCell ?_ (by first | (dsimp only; omega) | (simp; omega) | (simp; done) | (simp [size_ext_eq]; omega)) _)))

theorem PolyNew.kept {w w1 w2 : World} {v : Value} {lss : List (List (Nat × Nat))} (h : PolyNew w w1 v lss) {base : Nat} {rv : Value} {n : Nat} {xs : List Value} (hrow : w1.ownsRow base 46 1 rv n xs)
    (hg : w1.grownBy w2 rv.ownBlock) : PolyNew w w2 v lss := by
  obtain ⟨vs, hown, hl, hr⟩ := h
  refine ⟨vs, hown.kept hg (own_apart hown hrow (by decide)), hl, fun i hi h' => ?_⟩
  obtain ⟨x, hx, hn⟩ := hr i hi h'
  exact ⟨x, hx, hn.kept hg (own_apart hn hrow (by decide))⟩
theorem PolyNew.kp {w w1 w2 : World} {v : Value} {lss : List (List (Nat × Nat))} (h : PolyNew w w1 v lss) (k : Kp w1 w2) : PolyNew w w2 v lss := by
  obtain ⟨vs, hown, hl, hr⟩ := h
  refine ⟨vs, own_kp hown k, hl, fun i hi h' => ?_⟩
  obtain ⟨x, hx, hn⟩ := hr i hi h'
  exact ⟨x, hx, own_kp hn k⟩
theorem PolyNew.base {w w0 w1 : World} {v : Value} {lss : List (List (Nat × Nat))} (h : PolyNew w w1 v lss) (hb : w0.heap.size ≤ w.heap.size) : PolyNew w0 w1 v lss := by
  obtain ⟨vs, hown, hl, hr⟩ := h
  refine ⟨vs, own_base hown hb, hl, fun i hi h' => ?_⟩
  obtain ⟨x, hx, hn⟩ := hr i hi h'
  exact ⟨x, hx, own_base hn hb⟩
theorem PolyNew.form {w w1 : World} {v : Value} {lss : List (List (Nat × Nat))} (h : PolyNew w w1 v lss) : ∃ a cap, v = .slice a lss.length cap := by
  obtain ⟨vs, hown, _, _⟩ := h
  rcases hown.2 with ⟨h, h0⟩ | ⟨g, cap, cur, hv, _⟩
  · exact ⟨none, 0, by rw [h, h0]⟩
  · exact ⟨_, _, hv⟩
/-- a shape whose lists are a polygon, in three cells -/
structure PartAt (w : World) (g o : Nat) (ls : List (List (Nat × Nat))) : Prop where
  ex : ∃ (kd pv : Value) (a : Option Addr) (cap : Nat), w.cell? ⟨g, o, none⟩ = some kd ∧ w.cell? ⟨g, o + 1, none⟩ = some (.slice a ls.length cap) ∧ w.cell? ⟨g, o + 2, none⟩ = some pv ∧ LissIn w (.slice a ls.length cap) ls ∧ (∃ i : Int, kd = .int .i64 i) ∧ ∃ a' n' c', pv = .slice a' n' c'
def PolysNew (w wr : World) (vs : List Value) (f : Nat → List (List (Nat × Nat))) (k : Nat) : Prop := vs.length = k ∧ ∀ i, i < k → ∃ v, vs[i]? = some v ∧ PolyNew w wr v (f i)
theorem infoPoly : (Tryz.prog.info? 46).map (fun i => (i.zero, i.size, i.bytes)) = some (some (.slice none 0 0), 1, 24) := by kernel_rfl
theorem PolysNew.at {w w' : World} {v : Value} {vs : List Value} {f : Nat → List (List (Nat × Nat))} {n base : Nat} (hown : w'.ownsRow base 46 1 v n vs) (h : PolysNew w w' vs f n) (h0 : 0 < n)
    (hp : ∀ i, i < n → 0 < (f i).length ∧ ∀ (j : Nat) (h : j < (f i).length), 0 < ((f i)[j]'h).length) : PolysAt w' v n f := by
  have hown' := hown
  rcases hown.2 with ⟨_, hz⟩ | ⟨R, cap, cur, rfl, _, hR, _⟩
  · omega
  · refine ⟨R, cap, rfl, ?_, fun i hi => ?_⟩
    · rcases Nat.lt_or_ge R w'.heap.size with k | k
      · exact k
      · rw [Array.getElem?_eq_none k] at hR; cases hR
    · obtain ⟨x, hx, hn⟩ := h.2 i hi
      refine ⟨x, ?_, hn.at (hp i hi).1 (hp i hi).2⟩
      have := hown'.cellAt i (by omega)
      rw [this, hx]

set_option maxRecDepth 20000 in
set_option maxHeartbeats 4000000 in
theorem polygonsHave_c (g cap n : Nat) (hn : n ≤ 1000) (h0 : 0 < n) (f : Nat → List (List (Nat × Nat))) (hf : ∀ i, i < n → (f i).length ≤ 1000 ∧ 0 < (f i).length ∧ ∀ (j : Nat) (h : j < (f i).length), 0 < ((f i)[j]'h).length ∧ ((f i)[j]'h).length ≤ 1000)
    (w : World) (hg : g < w.heap.size) (hc : ∀ i, i < n → PartAt w g (i * 3) (f i)) (r : Nat → Bool) (px py : Nat)
    (hr : ∀ i, i < n → ∀ (x : Value) (w' : World), PolyAt w' x (f i) → Calls Tryz.prog 25 #[x, .agg #[.float .f64 px, .float .f64 py]] w' (Ret w' (.bool (r i)))) :
    Calls Tryz.prog 14 #[.slice (some ⟨g, 0, none⟩) n cap, .agg #[.float .f64 px, .float .f64 py]] w (Ret w (.bool ((List.range n).any r))) := by
  obtain ⟨i0, hi, hz0, hz1, hz2⟩ := info_parts infoPoly
  have Hc := Lib.hid hc
  have Hr := Lib.hid hr
  have Hf := Lib.hid hf
  clear hc hr hf
  go_enter Tryz.func14, Tryz.ntmps14
  go_wp2_with fail
  go_loopw [5, 11] (fun s5 s11 wr => ∃ (k : Nat) (vs : List Value), k ≤ n ∧ s11 = .int .i64 k ∧ Kp w wr ∧ wr.ownsRow (w.heap.size + 1) 46 1 s5 k vs ∧ PolysNew w wr vs f k ∧ NewPt w wr w.heap.size px py) (fun _ s11 _ => n - (intOf s11).toNat)
  case atStart =>
    have h := World.ownsRow_lit (base := w.heap.size + 1) (e := 46) (size := 1) (w.alloc (.cells #[.float .f64 px, .float .f64 py] 28)) #[] 0 (by simp) (by decide) rfl
    rw [World.size_alloc] at h
    exact ⟨0, [], by omega, rfl, (by repeat (first | (with_reducible exact Kp.refl _) | (with_reducible assumption) | (with_reducible apply Kp.ext) | (with_reducible apply Kp.alloc) | (with_reducible apply Kp.drew) | (with_reducible apply Kp.drewN) | (with_reducible refine Kp.setCell ?_ (by first | (dsimp only; omega) | (simp; omega) | (simp; done) | (simp [size_ext_eq]; omega)) _))), h, ⟨rfl, fun i h => by omega⟩, (by repeat (first | assumption | ((with_reducible refine NewPt.at ?_ _ _ _ ?_) <;> (first | (simp; done) | (simp; omega) | omega | (simp [size_ext_eq]; done) | (simp [size_ext_eq]; omega))) | (with_reducible apply NewPt.alloc) | (with_reducible apply NewPt.drew) | (with_reducible apply NewPt.drewN) | (with_reducible apply NewPt.ext) | (with_reducible exact NewPt.store (by assumption) _ _) | (with_reducible refine NewPt.other ?_ (by omega) _ _)))⟩
  case round =>
    obtain ⟨k, vs, hkn, rfl, hkp, hown, hpolys, hpt⟩ := hrel
    by_cases hlt : k < n
    · obtain ⟨kd, pv, a, lcap, q0, q1, q2, hl, ⟨ki, rfl⟩, a', n', c', rfl⟩ := (Hc.out k hlt).ex
      have q0 := Kp.cell hkp q0 hg
      have q1 := Kp.cell hkp q1 hg
      have q2 := Kp.cell hkp q2 hg
      have hgr : g < wr.heap.size := Nat.lt_of_lt_of_le hg hkp.size
      obtain ⟨f1, f2, f3⟩ := Hf.out k hlt
      have hp := Lib.hid (fun w' (hk : Kp w w') => polygonOf_c a lcap (.int .i64 ki) (.slice a' n' c') (f k) (by omega) (fun l hl => by obtain ⟨i, hi, rfl⟩ := List.getElem_of_mem hl; have := (f3 i hi).2; omega) w' ((hl.kp hk).listsIn))
      have hsz := hkp.size
      obtain ⟨hvl, hrg⟩ := hpolys
      have Hrg := Lib.hid hrg
      obtain ⟨l1, hl1⟩ : ∃ l, (f k).length = l := ⟨_, rfl⟩
      rw [hl1] at q1 hp
      have Hl1 := Lib.hid hl1
      clear hl hrg f1 f2 f3 hl1
      go_wp2_with (first | (go_at_call 26; (with_reducible refine (hp.out _ (by repeat (first | (with_reducible exact Kp.refl _) | (with_reducible assumption) | (with_reducible apply Kp.ext) | (with_reducible apply Kp.alloc) | (with_reducible apply Kp.drew) | (with_reducible apply Kp.drewN) | (with_reducible refine Kp.setCell ?_ (by first | (dsimp only; omega) | (simp; omega) | (simp; done) | (simp [size_ext_eq]; omega)) _)))).mono ?_); rintro e w1 ⟨v, u, rfl, rfl, hnew⟩; obtain ⟨a2, cap2, hv2⟩ := hnew.form; rw [Hl1.out] at hv2; subst hv2) | (at_builtin; refine wpList_append_own _ rfl (.tmp 15) (.tmp 18) 51 rfl (w.heap.size + 1) 46 i0 (.slice none 0 0) 1 24 Tryz.underlying51 hi hz0 hz1 hz2 rfl (by decide) _ k _ rfl ((own_kp hown (by repeat (first | (with_reducible exact Kp.refl _) | (with_reducible assumption) | (with_reducible apply Kp.ext) | (with_reducible apply Kp.alloc) | (with_reducible apply Kp.drew) | (with_reducible apply Kp.drewN) | (with_reducible refine Kp.setCell ?_ (by first | (dsimp only; omega) | (simp; omega) | (simp; done) | (simp [size_ext_eq]; omega)) _)))).alloc _) _ 1 1 [.slice a2 l1 cap2] rfl rfl ?c1 ?c2 ?c3 ?c4 ?c5 ?_))
      case c1 =>
        intro j u' hu
        cases j with
        | zero =>
          have e : u' = .slice a2 l1 cap2 := by simpa using hu.symm
          subst e
          rw [show wr.heap.size + 1 + dz (wr.heap.size + 1) u = (ext (wr.alloc (.cells #[.int .i64 ki, .slice a l1 lcap, .slice a' n' c'] 25)) u).heap.size by rw [size_ext_eq]; simp]
          simp [Addr.add]
        | succ j => simp at hu
      case c2 => exact fun u hu => by simp at hu; subst hu; rfl
      case c3 => unfold maxLen; omega
      case c4 => omega
      case c5 => simp [size_ext_eq]; omega
      intro v' w1 hown1 hgrow1 _
      have hk1 : Kp w w1 := Below.grown (((hkp.alloc _).ext _).alloc _) hgrow1 (by simp [size_ext_eq]; omega) (fun q hq => by have := (hown.lt q hq).1; omega)
      have hown2 : ((ext (wr.alloc (.cells #[.int .i64 ki, .slice a l1 lcap, .slice a' n' c'] 25)) u).alloc (.cells #[.slice a2 l1 cap2] 46)).ownsRow (w.heap.size + 1) 46 1 _ k vs := (own_kp hown (show Kp wr _ from (by repeat (first | (with_reducible exact Kp.refl _) | (with_reducible assumption) | (with_reducible apply Kp.ext) | (with_reducible apply Kp.alloc) | (with_reducible apply Kp.drew) | (with_reducible apply Kp.drewN) | (with_reducible refine Kp.setCell ?_ (by first | (dsimp only; omega) | (simp; omega) | (simp; done) | (simp [size_ext_eq]; omega)) _))))).alloc _
      have hR : PolysNew w w1 (vs ++ [.slice a2 l1 cap2]) f (k + 1) := by
        refine ⟨by simp [hvl], fun i hi => ?_⟩
        by_cases c : i = k
        · subst c
          refine ⟨.slice a2 l1 cap2, by rw [List.getElem?_append_right (by omega)]; simp [hvl], ?_⟩
          exact PolyNew.base ((hnew.kp ((Kp.refl _).alloc _)).kept hown2 hgrow1) (by simp; omega)
        · obtain ⟨v, hv, hn⟩ := Hrg.out i (by omega)
          refine ⟨v, by rw [List.getElem?_append_left (by omega)]; exact hv, ?_⟩
          exact (hn.kp (show Kp wr _ from (by repeat (first | (with_reducible exact Kp.refl _) | (with_reducible assumption) | (with_reducible apply Kp.ext) | (with_reducible apply Kp.alloc) | (with_reducible apply Kp.drew) | (with_reducible apply Kp.drewN) | (with_reducible refine Kp.setCell ?_ (by first | (dsimp only; omega) | (simp; omega) | (simp; done) | (simp [size_ext_eq]; omega)) _))))).kept hown2 hgrow1
      have hpt1 : NewPt w w1 w.heap.size px py := by
        have h2 := ((hpt.alloc (.cells #[.int .i64 ki, .slice a l1 lcap, .slice a' n' c'] 25)).ext u).alloc (.cells #[.slice a2 l1 cap2] 46)
        have hnb : Value.ownBlock _ ≠ some w.heap.size := fun hq => by have := (hown2.lt _ hq).1; omega
        exact ⟨h2.lo, Nat.lt_of_lt_of_le h2.hi hgrow1.size, (grown_cell hgrow1 h2.hi hnb).trans h2.c0, (grown_cell hgrow1 h2.hi hnb).trans h2.c1, (grown_frozen hgrow1 h2.hi hnb).trans h2.z0, (grown_frozen hgrow1 h2.hi hnb).trans h2.z1⟩
      have HR := Lib.hid hR
      clear hR hown2 hgrow1 hnew
      go_wp2_with fail
      go_roundw
      case rel => exact ⟨k + 1, _, by omega, by go_num, hk1, hown1, HR.out, hpt1⟩
      case measure => simp [intOf]; omega
    · obtain rfl : k = n := by omega
      have hat := hpolys.at hown h0 (fun i hi => ⟨(Hf.out i hi).2.1, fun j h => ((Hf.out i hi).2.2 j h).1⟩)
      obtain ⟨gv, cv, hv5, _⟩ := id hat
      have HM := Lib.hid (fun w' (hk : Kp wr w') => multiContains_c _ k hn f w' (hat.kp hk) r px py Hr.out)
      obtain ⟨_, i1, p0, p1, z0, z1⟩ := id hpt
      clear hat hpolys hown
      subst hv5
      go_wp2_with (go_at_call 28; (first | (with_reducible refine (Ret.at_ext (HM.out _ (by repeat (first | (with_reducible exact Kp.refl _) | (with_reducible assumption) | (with_reducible apply Kp.ext) | (with_reducible apply Kp.alloc) | (with_reducible apply Kp.drew) | (with_reducible apply Kp.drewN) | (with_reducible refine Kp.setCell ?_ (by first | (dsimp only; omega) | (simp; omega) | (simp; done) | (simp [size_ext_eq]; omega)) _))))).mono ?_) | (with_reducible refine (HM.out _ (by repeat (first | (with_reducible exact Kp.refl _) | (with_reducible assumption) | (with_reducible apply Kp.ext) | (with_reducible apply Kp.alloc) | (with_reducible apply Kp.drew) | (with_reducible apply Kp.drewN) | (with_reducible refine Kp.setCell ?_ (by first | (dsimp only; omega) | (simp; omega) | (simp; done) | (simp [size_ext_eq]; omega)) _)))).mono ?_)); rintro e w' ⟨rfl, u, rfl⟩)
      go_ret
      exact Ret.mk rfl (by repeat (first | (with_reducible exact Kp.refl _) | (with_reducible assumption) | (with_reducible apply Kp.ext) | (with_reducible apply Kp.alloc) | (with_reducible apply Kp.drew) | (with_reducible apply Kp.drewN) | (with_reducible refine Kp.setCell ?_ (by first | (dsimp only; omega) | (simp; omega) | (simp; done) | (simp [size_ext_eq]; omega)) _)))
end Go.Proofs.YtnmdgdmnmoghhaaGreatDoor
