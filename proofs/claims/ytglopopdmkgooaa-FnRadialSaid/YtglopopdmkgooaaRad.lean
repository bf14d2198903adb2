/-
  A line without points that are near the one before: orbsimplify's radial rule, walked.
-/
import Derived.Test.YtglopopdmkgooaaRadF
import Derived.Test.YtglopopdmkgooaaRev

namespace Go.Proofs.Ytglopopdmkgooaa
open PubFl Go.RowKit

attribute [local go_sem] cell_ext frozen_ext ext_setCell cell_store size_ext_eq lt_p0 lt_p1 lt_p2 lt_p3 lt_p4 lt_p5 lt_p6 lt_p7 lt_p8 lt_p9 lt_p10 lt_p11 lt_p12 lt_p13 lt_p14 lt_p15 lt_p16 lt_p17 lt_p18 lt_p19 lt_p20 lt_p21 lt_p22 lt_p23 lt_p24 lt_p25 lt_p26 lt_p27 lt_p28 lt_p29 lt_p30 lt_p31 lt_p32 lt_q1 lt_q2 lt_q3 lt_q4 lt_q5 lt_q6 lt_q7 lt_q8 lt_q9 lt_q10 lt_q11 lt_q12 lt_q13 lt_q14 lt_q15 lt_q16 lt_q17 lt_q18 lt_q19 lt_q20 lt_q21 lt_q22 lt_q23 lt_q24 lt_q25 lt_q26 lt_q27 lt_q28 lt_q29 lt_q30 lt_q31 lt_q32 run_fop run_store_float
attribute [local go_sem high] cmp_eql cmp_neq cmp_lss cmp_leq cmp_gtr cmp_geq

/-- what is kept of the first j + 1 points, and the index of the last of it -/
def radAt (far : Nat → Nat → Bool) (ps : List (Nat × Nat)) : Nat → List (Nat × Nat) × Nat
  | 0 => ([ps.getD 0 (0, 0)], 0)
  | j + 1 => if far (radAt far ps j).2 (j + 1) then ((radAt far ps j).1 ++ [ps.getD (j + 1) (0, 0)], j + 1) else radAt far ps j
structure RadOk (ps K : List (Nat × Nat)) (c j : Nat) : Prop where
  c_le : c ≤ j
  k_pos : 1 ≤ K.length
  k_le : K.length ≤ c + 1
  last : ∀ h : K.length - 1 < K.length, K[K.length - 1]'h = ps.getD c (0, 0)
theorem radAt_ok (far : Nat → Nat → Bool) (ps : List (Nat × Nat)) : ∀ j, RadOk ps (radAt far ps j).1 (radAt far ps j).2 j
  | 0 => ⟨Nat.le_refl _, Nat.le_refl _, Nat.le_refl _, fun _ => rfl⟩
  | j + 1 => by
    obtain ⟨h1, h2, h3, h4⟩ := radAt_ok far ps j
    unfold radAt
    by_cases c : far (radAt far ps j).2 (j + 1) = true
    · rw [if_pos c]
      refine ⟨Nat.le_refl _, by simp, by simp; omega, fun h => by simp⟩
    · rw [if_neg c]
      exact ⟨by omega, h2, h3, h4⟩
/-- the list in memory meanwhile -/
def radL (ps K : List (Nat × Nat)) : List (Nat × Nat) := K ++ ps.drop K.length
theorem radL_length (ps K : List (Nat × Nat)) (h : K.length ≤ ps.length) : (radL ps K).length = ps.length := by simp [radL]; omega
theorem radL_get (ps K : List (Nat × Nat)) (i : Nat) (h : K.length ≤ i) (hi : i < (radL ps K).length) (hi' : i < ps.length) : (radL ps K)[i] = ps[i] := by
  unfold radL at hi ⊢
  rw [List.getElem_append_right h]
  simp only [List.getElem_drop]
  congr 1; omega
theorem RadOk.at {ps K : List (Nat × Nat)} {c j : Nat} (h : RadOk ps K c j) (hc : c < (radL ps K).length) (hc' : c < ps.length) : (radL ps K)[c] = ps[c] := by
  by_cases e : c < K.length
  · have hcl : c = K.length - 1 := by have := h.k_le; omega
    have := h.last (by omega)
    unfold radL at hc ⊢
    rw [List.getElem_append_left e]
    subst hcl
    rw [this, getD_in _ _ hc']
  · exact radL_get ps K c (by omega) hc hc'
theorem radL_set (ps K : List (Nat × Nat)) (p : Nat × Nat) (h : K.length < ps.length) : (radL ps K).set K.length p = radL ps (K ++ [p]) := by
  unfold radL
  rw [List.set_append_right _ _ (Nat.le_refl _), Nat.sub_self, List.drop_eq_getElem_cons h, List.set_cons_zero]
  simp
theorem radL_start (far : Nat → Nat → Bool) (ps : List (Nat × Nat)) (h : 0 < ps.length) : radL ps (radAt far ps 0).1 = ps := by
  cases ps with
  | nil => simp at h
  | cons p ps => simp [radL, radAt]
/-- what the rule keeps of a line -/
def radOut (far : Nat → Nat → Bool) (ps : List (Nat × Nat)) : List (Nat × Nat) :=
  if (radAt far ps (ps.length - 1)).2 = ps.length - 1 then (radAt far ps (ps.length - 1)).1 else (radAt far ps (ps.length - 1)).1 ++ [ps.getD (ps.length - 1) (0, 0)]
theorem PtsAt.prefix {w : World} {b off : Nat} {ps qs : List (Nat × Nat)} (h : PtsAt w b off (ps ++ qs)) : PtsAt w b off ps := fun i hi => by
  have := h i (by simp; omega)
  rw [List.getElem_append_left hi] at this
  exact this

theorem below_ext {g : Nat} {w wr : World} (u : World) (h : Below g w wr) (hg : g ≤ wr.heap.size) : Below g w (ext wr u) := Below.trans h (Below.mono (ext_below wr u) hg)
theorem below_set2 {g : Nat} {w wr : World} (h : Below g w wr) (i j : Nat) (x y : Value) : Below g w ((wr.setCell ⟨g, i, none⟩ x).setCell ⟨g, j, none⟩ y) :=
  Below.setCell (Below.setCell h (p := ⟨g, i, none⟩) (Nat.le_refl _) _) (p := ⟨g, j, none⟩) (Nat.le_refl _) _
theorem size_le_ext (w u : World) : w.heap.size ≤ (ext w u).heap.size := (Kp.refl w).ext u |>.size
structure FarOk (ps : List (Nat × Nat)) (t : Nat) (far : Nat → Nat → Bool) : Prop where
  d : ∀ (c i : Nat) (hc : c < ps.length) (hi : i < ps.length), DsqOk (ps[c]'hc).1 (ps[c]'hc).2 (ps[i]'hi).1 (ps[i]'hi).2 ∧ SOk (dsqF (ps[c]'hc).1 (ps[c]'hc).2 (ps[i]'hi).1 (ps[i]'hi).2) ∧ gtF (sqrtF (dsqF (ps[c]'hc).1 (ps[c]'hc).2 (ps[i]'hi).1 (ps[i]'hi).2)) t = far c i

def SimPost (w : World) (g cap : Nat) (out : List (Nat × Nat)) (e : Ending) (w' : World) : Prop :=
  ∃ x, e = .returned (.tuple #[.slice (some ⟨g, 0, none⟩) out.length cap, x]) ∧ Below g w w' ∧ w.heap.size ≤ w'.heap.size ∧ PtsAt w' g 0 out

set_option maxRecDepth 20000 in
set_option maxHeartbeats 2000000 in
theorem radSimplify_c (R g cap t : Nat) (ps : List (Nat × Nat)) (far : Nat → Nat → Bool) (hn : ps.length ≤ 1000) (h2 : 2 ≤ ps.length) (hcap : ps.length ≤ cap) (w : World) (hR : R < g) (hg : g < w.heap.size)
    (r0 : w.cell? ⟨R, 0, none⟩ = some (.func (.func 33) #[] #[])) (r1 : w.cell? ⟨R, 1, none⟩ = some (.float .f64 t)) (hs : PtsAt w g 0 ps) (hf : ∀ j, w.frozen? ⟨g, j, none⟩ = false) (F : FarOk ps t far) (a1 : Bool) :
    Calls Try.prog 82 #[.pointer (some ⟨R, 0, none⟩), .slice (some ⟨g, 0, none⟩) ps.length cap, .bool a1, .bool false] w (SimPost w g cap (radOut far ps)) := by
  have HF := Lib.hid F
  have Hs := Lib.hid hs
  clear F hs
  go_enter Try.func82, Try.ntmps82
  go_wp2_with fail
  go_loopw [11, 12, 13] (fun s11 s12 s13 wr => ∃ j : Nat, j < ps.length ∧ s11 = .int .i64 ((radAt far ps j).1.length : Nat) ∧ s12 = .int .i64 ((radAt far ps j).2 : Nat) ∧ s13 = .int .i64 ((j : Int) + 1) ∧ Below g w wr ∧ w.heap.size ≤ wr.heap.size ∧ PtsAt wr g 0 (radL ps (radAt far ps j).1) ∧ (∀ j, wr.frozen? ⟨g, j, none⟩ = false)) (fun _ _ s13 _ => ps.length - (intOf s13).toNat)
  case atStart =>
    refine ⟨0, by omega, rfl, rfl, rfl, Below.refl _ _, Nat.le_refl _, ?_, hf⟩
    rw [radL_start far ps (by omega)]; exact Hs.out
  case round =>
    obtain ⟨j, hj, rfl, rfl, rfl, hbl, hsz, hpt, hfr⟩ := hrel
    have R0 := (Below.cell (p := ⟨R, 0, none⟩) hbl hR).trans r0
    have R1 := (Below.cell (p := ⟨R, 1, none⟩) hbl hR).trans r1
    have hgw : g < wr.heap.size := by omega
    have hRw : R < wr.heap.size := by omega
    have ok := radAt_ok far ps j
    by_cases hlt : j + 1 < ps.length
    · have hK : (radAt far ps j).1.length < ps.length := by have := ok.k_le; have := ok.c_le; omega
      have hll := radL_length ps (radAt far ps j).1 (by omega)
      have hc : (radAt far ps j).2 < ps.length := by have := ok.c_le; omega
      obtain ⟨e0, e1⟩ := hpt (radAt far ps j).2 (by omega)
      obtain ⟨f0, f1⟩ := hpt (j + 1) (by omega)
      obtain ⟨k0, k1⟩ := hpt (radAt far ps j).1.length (by omega)
      rw [ok.at (by omega) hc] at e0 e1
      rw [radL_get _ _ _ (by have := ok.k_le; have := ok.c_le; omega) (by omega) hlt] at f0 f1
      rw [radL_get _ _ _ (Nat.le_refl _) (by omega) hK] at k0 k1
      obtain ⟨o1, o2, o3⟩ := HF.out.d (radAt far ps j).2 (j + 1) hc hlt
      have hset := hpt.set (i := (radAt far ps j).1.length) (by omega) (ps[j + 1]'hlt).1 (ps[j + 1]'hlt).2
      rw [show ((ps[j + 1]'hlt).1, (ps[j + 1]'hlt).2) = ps[j + 1]'hlt from rfl, radL_set _ _ _ hK] at hset
      have hsucc : radAt far ps (j + 1) = if far (radAt far ps j).2 (j + 1) then ((radAt far ps j).1 ++ [ps[j + 1]'hlt], j + 1) else radAt far ps j := by
        rw [← getD_in ps (j + 1) hlt]; rfl
      have hKb := ok.k_le
      have hcb := ok.c_le
      obtain ⟨⟨px, py⟩, hq⟩ : ∃ q, ps[(radAt far ps j).2]'hc = q := ⟨_, rfl⟩
      obtain ⟨⟨qx, qy⟩, hq'⟩ : ∃ q, ps[j + 1]'hlt = q := ⟨_, rfl⟩
      obtain ⟨⟨ux, uy⟩, hq2⟩ : ∃ q, ps[(radAt far ps j).1.length]'hK = q := ⟨_, rfl⟩
      simp only [hq, hq', hq2, Nat.zero_add] at e0 e1 f0 f1 k0 k1 o1 o2 o3 hset hsucc
      clear hq hq' hq2 ok
      generalize hra : radAt far ps j = ra at *
      obtain ⟨K, c⟩ := ra
      simp only at e0 e1 f0 f1 k0 k1 o1 o2 o3 hset hsucc hK hll hc hKb hcb hpt
      have hw2 : IntKind.i64.wrap ((j : Int) + 1) = (j : Int) + 1 := wrap_in2 _ (by omega) (by omega)
      have i0 : (0 : Int) ≤ (c : Int) := by omega
      have i1 : (c : Int) < (ps.length : Int) := by omega
      have i2 : (0 : Int) ≤ (j : Int) + 1 := by omega
      have i3 : (j : Int) + 1 < (ps.length : Int) := by omega
      have i4 : ((j : Int) + 1).toNat = j + 1 := by omega
      have i5 : (K.length : Int) < (ps.length : Int) := by omega
      have Hra := Lib.hid hra
      clear hra
      cases hfar : far c (j + 1)
      · rw [hfar] at hsucc o3
        simp only [Bool.false_eq_true, if_false] at hsucc
        have Hs2 := Lib.hid hsucc
        clear hsucc hset k0 k1 hll
        go_wp2_with fail
        first | (with_reducible refine wp_region_ext_lit2 ?_ ?_ ?_) | refine wp_region_ext_lit ?_ ?_ ?_
        kernel_rfl
        kernel_rfl
        repeat (go_big_quiet_step ((go_at_call 33; with_reducible exact Ret.quiet (distance_c _ _ _ _ o1 o2 _))))
        refine wpQuiet_nil ?_
        rintro _ ⟨u, rfl⟩
        go_wp2_with fail
        go_roundw
        case rel =>
          refine ⟨j + 1, hlt, by rw [Hs2.out], by rw [Hs2.out], by go_num, below_ext u hbl (by omega), Nat.le_trans hsz (size_le_ext _ _), ?_, fun q => ?_⟩
          · rw [Hs2.out]; exact hpt.kp hgw ((Kp.refl _).ext u)
          · rw [frozen_ext hgw]; exact hfr q
        case measure => simp [intOf]; omega
      · rw [hfar] at hsucc o3
        simp only [if_true] at hsucc
        have Hs2 := Lib.hid hsucc
        have Hset := Lib.hid hset
        clear hsucc hset hll
        go_wp2_with fail
        first | (with_reducible refine wp_region_ext_lit2 ?_ ?_ ?_) | refine wp_region_ext_lit ?_ ?_ ?_
        kernel_rfl
        kernel_rfl
        repeat (go_big_quiet_step ((go_at_call 33; with_reducible exact Ret.quiet (distance_c _ _ _ _ o1 o2 _))))
        refine wpQuiet_nil ?_
        rintro _ ⟨u, rfl⟩
        go_wp2_with fail
        go_roundw
        case rel =>
          have hgs : g < ((wr.setCell ⟨g, K.length * 2, none⟩ (.float .f64 qx)).setCell ⟨g, K.length * 2 + 1, none⟩ (.float .f64 qy)).heap.size := by simpa using hgw
          refine ⟨j + 1, hlt, by rw [Hs2.out]; simp, by rw [Hs2.out]; simp, by go_num, below_ext u (below_set2 hbl _ _ _ _) (by omega), Nat.le_trans (by simpa using hsz) (size_le_ext _ _), ?_, fun q => ?_⟩
          · rw [Hs2.out]; exact Hset.out.kp hgs ((Kp.refl _).ext u)
          · rw [frozen_ext hgs]; simpa using hfr q
        case measure => simp [intOf]; omega
    · have hjn : j = ps.length - 1 := by omega
      have hKb := ok.k_le
      have hcb := ok.c_le
      have hKp := ok.k_pos
      have hll := radL_length ps (radAt far ps j).1 (by omega)
      have hw2 : IntKind.i64.wrap ((j : Int) + 1) = (j : Int) + 1 := wrap_in2 _ (by omega) (by omega)
      have hout : radOut far ps = if (radAt far ps j).2 = j then (radAt far ps j).1 else (radAt far ps j).1 ++ [ps.getD j (0, 0)] := by unfold radOut; rw [hjn]
      obtain ⟨n, hnn⟩ : ∃ n, ps.length = n + 1 := ⟨j, by omega⟩
      have hjn2 : j = n := by omega
      subst hjn2
      have i3 : ((j : Int) + 1 < (ps.length : Int)) = False := eq_false (by omega)
      have hlen : (ps.length : Int) - 1 = (j : Int) := by omega
      by_cases hc : (radAt far ps j).2 = j
      · rw [if_pos hc] at hout
        have Hout := Lib.hid hout
        have hpre := PtsAt.prefix hpt
        generalize radAt far ps j = ra at *
        obtain ⟨K, c⟩ := ra
        simp only at hc hpre hKb hcb hKp Hout
        subst hc
        have Hpre := Lib.hid hpre
        have Hnn := Lib.hid hnn
        have j0 : (0 : Int) ≤ (K.length : Int) := by omega
        have j1 : (K.length : Int) ≤ (cap : Int) := by omega
        clear hout hpre hpt hll hjn hnn ok
        go_wp2_with fail
        go_ret2
        exact ⟨_, by rw [Hout.out]; rfl, hbl, hsz, by rw [Hout.out]; exact Hpre.out⟩
      · rw [if_neg hc] at hout
        have hK : (radAt far ps j).1.length < ps.length := by omega
        have hjl : j < ps.length := by omega
        obtain ⟨f0, f1⟩ := hpt j (by omega)
        obtain ⟨k0, k1⟩ := hpt (radAt far ps j).1.length (by omega)
        rw [radL_get _ _ _ (by omega) (by omega) hjl] at f0 f1
        rw [radL_get _ _ _ (Nat.le_refl _) (by omega) hK] at k0 k1
        have hset := hpt.set (i := (radAt far ps j).1.length) (by omega) (ps[j]'hjl).1 (ps[j]'hjl).2
        rw [show ((ps[j]'hjl).1, (ps[j]'hjl).2) = ps[j]'hjl from rfl, radL_set _ _ _ hK] at hset
        have hpre := PtsAt.prefix hset
        rw [getD_in _ _ hjl] at hout
        obtain ⟨⟨qx, qy⟩, hq'⟩ : ∃ q, ps[j]'hjl = q := ⟨_, rfl⟩
        obtain ⟨⟨ux, uy⟩, hq2⟩ : ∃ q, ps[(radAt far ps j).1.length]'hK = q := ⟨_, rfl⟩
        simp only [hq', hq2, Nat.zero_add] at f0 f1 k0 k1 hpre hout
        clear hq' hq2 hset
        have Hout := Lib.hid hout
        have Hpre := Lib.hid hpre
        generalize radAt far ps j = ra at *
        obtain ⟨K, c⟩ := ra
        simp only at hc hKb hcb hKp Hout Hpre hK f0 f1 k0 k1
        have Hnn := Lib.hid hnn
        have hc1 : ((c : Int) = (j : Int)) = False := eq_false (by omega)
        have hc2 : ((c : Int) == (j : Int)) = false := beq_eq_false_iff_ne.2 (by omega)
        have j0 : (0 : Int) ≤ (K.length : Int) := by omega
        have j1 : (K.length : Int) < (ps.length : Int) := by omega
        have j2 : (K.length : Int) + 1 ≤ (cap : Int) := by omega
        have j3 : (0 : Int) ≤ (j : Int) := by omega
        have j4 : (j : Int) < (ps.length : Int) := by omega
        have j5 : ((K.length : Int) + 1).toNat = K.length + 1 := by omega
        have j6 : IntKind.i64.wrap ((K.length : Int) + 1) = (K.length : Int) + 1 := wrap_in2 _ (by omega) (by omega)
        have j7 : (0 : Int) ≤ (K.length : Int) + 1 := by omega
        have hgs : g < ((wr.setCell ⟨g, K.length * 2, none⟩ (.float .f64 qx)).setCell ⟨g, K.length * 2 + 1, none⟩ (.float .f64 qy)).heap.size := by simpa using hgw
        have hb2 := below_set2 hbl (K.length * 2) (K.length * 2 + 1) (.float .f64 qx) (.float .f64 qy)
        clear hout hpre hpt hll hjn hnn hc
        go_wp2_with fail
        go_ret2
        exact ⟨_, by rw [Hout.out, List.length_append]; rfl, hb2, by simpa using hsz, by rw [Hout.out]; exact Hpre.out⟩
end Go.Proofs.Ytglopopdmkgooaa
