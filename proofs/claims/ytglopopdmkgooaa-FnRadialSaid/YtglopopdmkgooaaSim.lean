/-
  impl.KeepByAreas and impl.ByAreas, walked.
-/
import Derived.Test.YtglopopdmkgooaaMVis
import Derived.Test.YtglopopdmkgooaaLine
namespace Go.Proofs.Ytglopopdmkgooaa
open PubFl Go.RowKit PubVis

attribute [local go_sem] cell_ext frozen_ext ext_setCell cell_store size_ext_eq lt_p0 lt_p1 lt_p2 lt_p3 lt_p4 lt_p5 lt_p6 lt_p7 lt_p8 lt_p9 lt_p10 lt_p11 lt_p12 lt_p13 lt_p14 lt_p15 lt_p16 lt_p17 lt_p18 lt_p19 lt_p20 lt_p21 lt_p22 lt_p23 lt_p24 lt_p25 lt_p26 lt_p27 lt_p28 lt_p29 lt_p30 lt_p31 lt_p32 lt_q1 lt_q2 lt_q3 lt_q4 lt_q5 lt_q6 lt_q7 lt_q8 lt_q9 lt_q10 lt_q11 lt_q12 lt_q13 lt_q14 lt_q15 lt_q16 lt_q17 lt_q18 lt_q19 lt_q20 lt_q21 lt_q22 lt_q23 lt_q24 lt_q25 lt_q26 lt_q27 lt_q28 lt_q29 lt_q30 lt_q31 lt_q32 run_fop run_store_float
attribute [local go_sem high] cmp_eql cmp_neq cmp_lss cmp_leq cmp_gtr cmp_geq

/-- what a simplifier's run leaves -/
def RunPost (w : World) (g cap : Nat) (P : List (Nat × Nat) → Prop) (e : Ending) (w' : World) : Prop :=
  ∃ out, P out ∧ e = .returned (.slice (some ⟨g, 0, none⟩) out.length cap) ∧ Below g w w' ∧ w.heap.size ≤ w'.heap.size ∧ PtsAt w' g 0 out
theorem map_kept_all (ps : List (Nat × Nat)) : ∀ k, k ≤ ps.length → (kept (fun q => decide (q < ps.length)) k).map (ptAt ps) = ps.take k
  | 0, _ => by simp [kept]
  | k + 1, h => by
    show ((if decide (k < ps.length) = true then kept _ k ++ [k] else kept _ k).map (ptAt ps)) = _
    rw [if_pos (decide_eq_true (by omega)), List.map_append, map_kept_all ps k (by omega), List.take_succ_eq_append_getElem (by omega)]
    congr 1
    show [ptAt ps k] = _
    rw [show ptAt ps k = ps[k]'(by omega) from getD_in _ _ (by omega)]
/-- what Visvalingam's rule makes of a line -/
def VisOut (ps : List (Nat × Nat)) (tri : Nat → Nat → Nat → Int) (thr : Int) (keep : Nat) (out : List (Nat × Nat)) : Prop :=
  ∃ L, VisRes ps.length tri thr (min keep ps.length) L ∧ out = (kept L ps.length).map (ptAt ps)
theorem visOut_all {ps : List (Nat × Nat)} {tri : Nat → Nat → Nat → Int} {thr : Int} {keep : Nat} (h2 : 2 ≤ ps.length) (h : ps.length ≤ keep) : VisOut ps tri thr keep ps := by
  have hc : cnt (fun q => decide (q < ps.length)) ps.length = ps.length := cnt_all _ fun i hi => decide_eq_true hi
  refine ⟨fun q => decide (q < ps.length), ⟨decide_eq_true (by omega), decide_eq_true (by omega), by rw [hc]; omega, .inl (by rw [hc]; omega)⟩, ?_⟩
  rw [map_kept_all ps ps.length (Nat.le_refl _), List.take_of_length_le (Nat.le_refl _)]

set_option maxRecDepth 100000 in
set_option maxHeartbeats 1000000 in
theorem visShort_c (R b cap keep t0 : Nat) (ps : List (Nat × Nat)) (h1 : 2 ≤ ps.length) (h2 : 2 ≤ keep) (h3 : ps.length ≤ keep) (w : World) (hR : R < w.heap.size)
    (r1 : w.cell? ⟨R, 1, none⟩ = some (.int .i64 (keep : Nat))) (hs : PtsAt w b 0 ps) (a1 : Bool) :
    Calls Try.prog 63 #[.pointer (some ⟨R, 0, none⟩), .slice (some ⟨b, 0, none⟩) ps.length cap, .bool a1, .bool false] w (SimPost w b cap ps) := by
  have k1 : ((keep : Nat) : Int) ≠ 0 := by omega
  have k2 : ((keep : Int) == 0) = false := beq_eq_false_iff_ne.2 (by omega)
  have k3 : ((ps.length : Int) ≤ (keep : Int)) = True := eq_true (by omega)
  have k4 : ((ps.length : Int) ≤ 1) = False := eq_false (by omega)
  have k5 : (keep = 0) = False := eq_false (by omega)
  have Hs := Lib.hid hs
  clear hs
  go_enter Try.func63, Try.ntmps63
  go_wp2_with fail
  go_ret2
  exact ⟨_, rfl, Below.refl _ _, Nat.le_refl _, Hs.out⟩

theorem vis_any (R b cap keep : Nat) (thr : Int) (ps : List (Nat × Nat)) (tri : Nat → Nat → Nat → Int) (hn : ps.length ≤ 1000) (h1 : 2 ≤ ps.length) (h2 : 2 ≤ keep) (hcap : ps.length ≤ cap) (w : World) (hR : R < b) (hb : b < w.heap.size) (t0 : Nat)
    (r0 : w.cell? ⟨R, 0, none⟩ = some (.float .f64 t0)) (r1 : w.cell? ⟨R, 1, none⟩ = some (.int .i64 (keep : Nat))) (ot : FOk .mul t0 4611686018427387904) (hthr : AV (fop .mul t0 4611686018427387904) thr)
    (hs : PtsAt w b 0 ps) (hf : ∀ j, w.frozen? ⟨b, j, none⟩ = false) (T : TriH ps tri) (a1 : Bool) :
    Calls Try.prog 63 #[.pointer (some ⟨R, 0, none⟩), .slice (some ⟨b, 0, none⟩) ps.length cap, .bool a1, .bool false] w (fun e w' => ∃ out, VisOut ps tri thr keep out ∧ SimPost w b cap out e w') := by
  by_cases h3 : keep < ps.length
  · refine (visSimplify_c R b cap keep thr ps tri hn h3 h2 hcap w hR hb t0 r0 r1 ot hthr hs hf T a1).mono ?_
    rintro e w' ⟨L, hL, hp⟩
    exact ⟨_, ⟨L, by rw [Nat.min_eq_left (by omega)]; exact hL, rfl⟩, hp⟩
  · refine (visShort_c R b cap keep t0 ps h1 h2 (by omega) w (by omega) r1 hs a1).mono ?_
    intro e w' hp
    exact ⟨ps, visOut_all h1 (by omega), hp⟩
theorem methSimV (x : Value) (w : World) : Sem.run Try.prog (method 220 43 x "loop.example/pub-g01503/pub/orbsimplify.simplify") w = .ok (63, x) w := by kernel_rfl
set_option maxRecDepth 20000 in
set_option maxHeartbeats 1000000 in
theorem runV_c (R b cap : Nat) (P : List (Nat × Nat) → Prop) (ps : List (Nat × Nat)) (hn : ps.length ≤ 1000) (hP : ps.length ≤ 2 → P ps) (w : World) (hs : PtsAt w b 0 ps)
    (h : 2 < ps.length → Calls Try.prog 63 #[.pointer (some ⟨R, 0, none⟩), .slice (some ⟨b, 0, none⟩) ps.length cap, .bool false, .bool false] w (fun e w' => ∃ out, P out ∧ SimPost w b cap out e w')) :
    Calls Try.prog 39 #[.iface 43 (.pointer (some ⟨R, 0, none⟩)), .slice (some ⟨b, 0, none⟩) ps.length cap, .bool false] w (RunPost w b cap P) := by
  have m1 := methSimV
  have Hs := Lib.hid hs
  clear hs
  by_cases h2 : ps.length ≤ 2
  · have k1 : ((ps.length : Int) ≤ 2) = True := eq_true (by omega)
    have HP := Lib.hid (hP h2)
    clear hP h2 h
    go_enter Try.func39, Try.ntmps39
    go_wp2_with fail
    go_ret
    exact ⟨ps, HP.out, rfl, Below.refl _ _, Nat.le_refl _, Hs.out⟩
  · have k1 : ((ps.length : Int) ≤ 2) = False := eq_false (by omega)
    have HS := Lib.hid (h (by omega))
    clear hP h2 h
    go_enter Try.func39, Try.ntmps39
    go_wp2_with (go_at_call 63; (with_reducible refine (HS.out).mono ?_); rintro e w1 ⟨out, hP, x, rfl, h1, h2, h3⟩; have HR := Lib.hid (And.intro hP (And.intro h1 (And.intro h2 h3))); clear hP h1 h2 h3)
    go_ret
    obtain ⟨hP, h1, h2, h3⟩ := HR.out
    exact ⟨out, hP, rfl, h1, h2, h3⟩
set_option maxHeartbeats 1000000 in
theorem lineV_c (R b cap : Nat) (P : List (Nat × Nat) → Prop) (ps : List (Nat × Nat)) (hn : ps.length ≤ 1000) (hP : ps.length ≤ 2 → P ps) (w : World) (hs : PtsAt w b 0 ps)
    (h : 2 < ps.length → Calls Try.prog 63 #[.pointer (some ⟨R, 0, none⟩), .slice (some ⟨b, 0, none⟩) ps.length cap, .bool false, .bool false] w (fun e w' => ∃ out, P out ∧ SimPost w b cap out e w')) :
    Calls Try.prog 36 #[.iface 43 (.pointer (some ⟨R, 0, none⟩)), .slice (some ⟨b, 0, none⟩) ps.length cap] w (RunPost w b cap P) := by
  have HS := Lib.hid (runV_c R b cap P ps hn hP w hs h)
  clear hP hs h
  go_enter Try.func36, Try.ntmps36
  go_wp2_with (go_at_call 39; (with_reducible refine (HS.out).mono ?_); rintro e w1 ⟨out, hP, rfl, h1, h2, h3⟩; have HR := Lib.hid (And.intro hP (And.intro h1 (And.intro h2 h3))); clear hP h1 h2 h3)
  go_ret
  obtain ⟨hP, h1, h2, h3⟩ := HR.out
  exact ⟨out, hP, rfl, h1, h2, h3⟩
set_option maxHeartbeats 1000000 in
theorem lsV_c (R b cap : Nat) (P : List (Nat × Nat) → Prop) (ps : List (Nat × Nat)) (hn : ps.length ≤ 1000) (hP : ps.length ≤ 2 → P ps) (w : World) (hs : PtsAt w b 0 ps)
    (h : 2 < ps.length → Calls Try.prog 63 #[.pointer (some ⟨R, 0, none⟩), .slice (some ⟨b, 0, none⟩) ps.length cap, .bool false, .bool false] w (fun e w' => ∃ out, P out ∧ SimPost w b cap out e w')) :
    Calls Try.prog 23 #[.pointer (some ⟨R, 0, none⟩), .slice (some ⟨b, 0, none⟩) ps.length cap] w (RunPost w b cap P) := by
  have HS := Lib.hid (lineV_c R b cap P ps hn hP w hs h)
  clear hP hs h
  go_enter Try.func23, Try.ntmps23
  go_wp2_with (go_at_call 36; (with_reducible refine (HS.out).mono ?_); rintro e w1 ⟨out, hP, rfl, h1, h2, h3⟩; have HR := Lib.hid (And.intro hP (And.intro h1 (And.intro h2 h3))); clear hP h1 h2 h3)
  go_ret
  obtain ⟨hP, h1, h2, h3⟩ := HR.out
  exact ⟨out, hP, rfl, h1, h2, h3⟩

theorem methSimR (x : Value) (w : World) : Sem.run Try.prog (method 220 55 x "loop.example/pub-g01503/pub/orbsimplify.simplify") w = .ok (82, x) w := by kernel_rfl
set_option maxRecDepth 20000 in
set_option maxHeartbeats 1000000 in
theorem runR_c (R b cap : Nat) (P : List (Nat × Nat) → Prop) (ps : List (Nat × Nat)) (hn : ps.length ≤ 1000) (hP : ps.length ≤ 2 → P ps) (w : World) (hs : PtsAt w b 0 ps)
    (h : 2 < ps.length → Calls Try.prog 82 #[.pointer (some ⟨R, 0, none⟩), .slice (some ⟨b, 0, none⟩) ps.length cap, .bool false, .bool false] w (fun e w' => ∃ out, P out ∧ SimPost w b cap out e w')) :
    Calls Try.prog 39 #[.iface 55 (.pointer (some ⟨R, 0, none⟩)), .slice (some ⟨b, 0, none⟩) ps.length cap, .bool false] w (RunPost w b cap P) := by
  have m1 := methSimR
  have Hs := Lib.hid hs
  clear hs
  by_cases h2 : ps.length ≤ 2
  · have k1 : ((ps.length : Int) ≤ 2) = True := eq_true (by omega)
    have HP := Lib.hid (hP h2)
    clear hP h2 h
    go_enter Try.func39, Try.ntmps39
    go_wp2_with fail
    go_ret
    exact ⟨ps, HP.out, rfl, Below.refl _ _, Nat.le_refl _, Hs.out⟩
  · have k1 : ((ps.length : Int) ≤ 2) = False := eq_false (by omega)
    have HS := Lib.hid (h (by omega))
    clear hP h2 h
    go_enter Try.func39, Try.ntmps39
    go_wp2_with (go_at_call 82; (with_reducible refine (HS.out).mono ?_); rintro e w1 ⟨out, hP, x, rfl, h1, h2, h3⟩; have HR := Lib.hid (And.intro hP (And.intro h1 (And.intro h2 h3))); clear hP h1 h2 h3)
    go_ret
    obtain ⟨hP, h1, h2, h3⟩ := HR.out
    exact ⟨out, hP, rfl, h1, h2, h3⟩
set_option maxHeartbeats 1000000 in
theorem lineR_c (R b cap : Nat) (P : List (Nat × Nat) → Prop) (ps : List (Nat × Nat)) (hn : ps.length ≤ 1000) (hP : ps.length ≤ 2 → P ps) (w : World) (hs : PtsAt w b 0 ps)
    (h : 2 < ps.length → Calls Try.prog 82 #[.pointer (some ⟨R, 0, none⟩), .slice (some ⟨b, 0, none⟩) ps.length cap, .bool false, .bool false] w (fun e w' => ∃ out, P out ∧ SimPost w b cap out e w')) :
    Calls Try.prog 36 #[.iface 55 (.pointer (some ⟨R, 0, none⟩)), .slice (some ⟨b, 0, none⟩) ps.length cap] w (RunPost w b cap P) := by
  have HS := Lib.hid (runR_c R b cap P ps hn hP w hs h)
  clear hP hs h
  go_enter Try.func36, Try.ntmps36
  go_wp2_with (go_at_call 39; (with_reducible refine (HS.out).mono ?_); rintro e w1 ⟨out, hP, rfl, h1, h2, h3⟩; have HR := Lib.hid (And.intro hP (And.intro h1 (And.intro h2 h3))); clear hP h1 h2 h3)
  go_ret
  obtain ⟨hP, h1, h2, h3⟩ := HR.out
  exact ⟨out, hP, rfl, h1, h2, h3⟩
set_option maxHeartbeats 1000000 in
theorem lsR_c (R b cap : Nat) (P : List (Nat × Nat) → Prop) (ps : List (Nat × Nat)) (hn : ps.length ≤ 1000) (hP : ps.length ≤ 2 → P ps) (w : World) (hs : PtsAt w b 0 ps)
    (h : 2 < ps.length → Calls Try.prog 82 #[.pointer (some ⟨R, 0, none⟩), .slice (some ⟨b, 0, none⟩) ps.length cap, .bool false, .bool false] w (fun e w' => ∃ out, P out ∧ SimPost w b cap out e w')) :
    Calls Try.prog 34 #[.pointer (some ⟨R, 0, none⟩), .slice (some ⟨b, 0, none⟩) ps.length cap] w (RunPost w b cap P) := by
  have HS := Lib.hid (lineR_c R b cap P ps hn hP w hs h)
  clear hP hs h
  go_enter Try.func34, Try.ntmps34
  go_wp2_with (go_at_call 36; (with_reducible refine (HS.out).mono ?_); rintro e w1 ⟨out, hP, rfl, h1, h2, h3⟩; have HR := Lib.hid (And.intro hP (And.intro h1 (And.intro h2 h3))); clear hP h1 h2 h3)
  go_ret
  obtain ⟨hP, h1, h2, h3⟩ := HR.out
  exact ⟨out, hP, rfl, h1, h2, h3⟩

theorem methSimD (x : Value) (w : World) : Sem.run Try.prog (method 220 47 x "loop.example/pub-g01503/pub/orbsimplify.simplify") w = .ok (78, x) w := by kernel_rfl
set_option maxRecDepth 20000 in
set_option maxHeartbeats 1000000 in
theorem runD_c (R b cap : Nat) (P : List (Nat × Nat) → Prop) (ps : List (Nat × Nat)) (hn : ps.length ≤ 1000) (hP : ps.length ≤ 2 → P ps) (w : World) (hs : PtsAt w b 0 ps)
    (h : 2 < ps.length → Calls Try.prog 78 #[.pointer (some ⟨R, 0, none⟩), .slice (some ⟨b, 0, none⟩) ps.length cap, .bool false, .bool false] w (fun e w' => ∃ out, P out ∧ SimPost w b cap out e w')) :
    Calls Try.prog 39 #[.iface 47 (.pointer (some ⟨R, 0, none⟩)), .slice (some ⟨b, 0, none⟩) ps.length cap, .bool false] w (RunPost w b cap P) := by
  have m1 := methSimD
  have Hs := Lib.hid hs
  clear hs
  by_cases h2 : ps.length ≤ 2
  · have k1 : ((ps.length : Int) ≤ 2) = True := eq_true (by omega)
    have HP := Lib.hid (hP h2)
    clear hP h2 h
    go_enter Try.func39, Try.ntmps39
    go_wp2_with fail
    go_ret
    exact ⟨ps, HP.out, rfl, Below.refl _ _, Nat.le_refl _, Hs.out⟩
  · have k1 : ((ps.length : Int) ≤ 2) = False := eq_false (by omega)
    have HS := Lib.hid (h (by omega))
    clear hP h2 h
    go_enter Try.func39, Try.ntmps39
    go_wp2_with (go_at_call 78; (with_reducible refine (HS.out).mono ?_); rintro e w1 ⟨out, hP, x, rfl, h1, h2, h3⟩; have HR := Lib.hid (And.intro hP (And.intro h1 (And.intro h2 h3))); clear hP h1 h2 h3)
    go_ret
    obtain ⟨hP, h1, h2, h3⟩ := HR.out
    exact ⟨out, hP, rfl, h1, h2, h3⟩
set_option maxHeartbeats 1000000 in
theorem lineD_c (R b cap : Nat) (P : List (Nat × Nat) → Prop) (ps : List (Nat × Nat)) (hn : ps.length ≤ 1000) (hP : ps.length ≤ 2 → P ps) (w : World) (hs : PtsAt w b 0 ps)
    (h : 2 < ps.length → Calls Try.prog 78 #[.pointer (some ⟨R, 0, none⟩), .slice (some ⟨b, 0, none⟩) ps.length cap, .bool false, .bool false] w (fun e w' => ∃ out, P out ∧ SimPost w b cap out e w')) :
    Calls Try.prog 36 #[.iface 47 (.pointer (some ⟨R, 0, none⟩)), .slice (some ⟨b, 0, none⟩) ps.length cap] w (RunPost w b cap P) := by
  have HS := Lib.hid (runD_c R b cap P ps hn hP w hs h)
  clear hP hs h
  go_enter Try.func36, Try.ntmps36
  go_wp2_with (go_at_call 39; (with_reducible refine (HS.out).mono ?_); rintro e w1 ⟨out, hP, rfl, h1, h2, h3⟩; have HR := Lib.hid (And.intro hP (And.intro h1 (And.intro h2 h3))); clear hP h1 h2 h3)
  go_ret
  obtain ⟨hP, h1, h2, h3⟩ := HR.out
  exact ⟨out, hP, rfl, h1, h2, h3⟩
set_option maxHeartbeats 1000000 in
theorem lsD_c (R b cap : Nat) (P : List (Nat × Nat) → Prop) (ps : List (Nat × Nat)) (hn : ps.length ≤ 1000) (hP : ps.length ≤ 2 → P ps) (w : World) (hs : PtsAt w b 0 ps)
    (h : 2 < ps.length → Calls Try.prog 78 #[.pointer (some ⟨R, 0, none⟩), .slice (some ⟨b, 0, none⟩) ps.length cap, .bool false, .bool false] w (fun e w' => ∃ out, P out ∧ SimPost w b cap out e w')) :
    Calls Try.prog 26 #[.pointer (some ⟨R, 0, none⟩), .slice (some ⟨b, 0, none⟩) ps.length cap] w (RunPost w b cap P) := by
  have HS := Lib.hid (lineD_c R b cap P ps hn hP w hs h)
  clear hP hs h
  go_enter Try.func26, Try.ntmps26
  go_wp2_with (go_at_call 36; (with_reducible refine (HS.out).mono ?_); rintro e w1 ⟨out, hP, rfl, h1, h2, h3⟩; have HR := Lib.hid (And.intro hP (And.intro h1 (And.intro h2 h3))); clear hP h1 h2 h3)
  go_ret
  obtain ⟨hP, h1, h2, h3⟩ := HR.out
  exact ⟨out, hP, rfl, h1, h2, h3⟩

end Go.Proofs.Ytglopopdmkgooaa
