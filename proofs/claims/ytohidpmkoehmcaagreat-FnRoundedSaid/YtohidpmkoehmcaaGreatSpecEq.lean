/-
  spec.Equal, walked.
-/
import Derived.Test.YtohidpmkoehmcaaGreatEqF
import Derived.Test.YtohidpmkoehmcaaGreatEq
namespace Go.Proofs.YtohidpmkoehmcaaGreat
open PubFl Go.RowKit

attribute [local go_sem] cell_ext frozen_ext ext_setCell cell_store size_ext_eq lt_p0 lt_p1 lt_p2 lt_p3 lt_p4 lt_p5 lt_p6 lt_p7 lt_p8 lt_p9 lt_p10 lt_p11 lt_p12 lt_p13 lt_p14 lt_p15 lt_p16 lt_p17 lt_p18 lt_p19 lt_p20 lt_p21 lt_p22 lt_p23 lt_p24 lt_p25 lt_p26 lt_p27 lt_p28 lt_p29 lt_p30 lt_p31 lt_p32 lt_q1 lt_q2 lt_q3 lt_q4 lt_q5 lt_q6 lt_q7 lt_q8 lt_q9 lt_q10 lt_q11 lt_q12 lt_q13 lt_q14 lt_q15 lt_q16 lt_q17 lt_q18 lt_q19 lt_q20 lt_q21 lt_q22 lt_q23 lt_q24 lt_q25 lt_q26 lt_q27 lt_q28 lt_q29 lt_q30 lt_q31 lt_q32 run_fop run_store_float
attribute [local go_sem high] cmp_eql cmp_neq cmp_lss cmp_leq cmp_gtr cmp_geq

def eqP (p q : Nat × Nat) : Bool := eqF p.1 q.1 && eqF p.2 q.2
def eqPts (ps qs : List (Nat × Nat)) : Bool := decide (ps.length = qs.length) && (List.range ps.length).all fun i => eqP (ps.getD i (0, 0)) (qs.getD i (0, 0))
def eqLs (ls ms : List (List (Nat × Nat))) : Bool := decide (ls.length = ms.length) && (List.range ls.length).all fun i => eqPts (ls.getD i []) (ms.getD i [])
def eqSh : Nat → Sh → Sh → Bool
  | 0, _, _ => true
  | d + 1, a, b => decide (a.kind = b.kind) && (eqLs a.lists b.lists && (decide (a.parts.length = b.parts.length) && (List.range a.parts.length).all fun i => eqSh d (a.parts.getD i dsh) (b.parts.getD i dsh)))

/-- what the answer is -/
structure EqFacts (d : Nat) (a b : Sh) (r : Bool) : Prop where
  kind : a.kind ≠ b.kind → r = false
  lists : a.lists.length ≠ b.lists.length → r = false
  parts : a.parts.length ≠ b.parts.length → r = false
  list : ∀ i, i < a.lists.length → eqPts (a.lists.getD i []) (b.lists.getD i []) = false → r = false
  part : ∀ i, i < a.parts.length → eqSh d (a.parts.getD i dsh) (b.parts.getD i dsh) = false → r = false
  all : a.kind = b.kind → a.lists.length = b.lists.length → a.parts.length = b.parts.length → AllTo (fun i => eqPts (a.lists.getD i []) (b.lists.getD i [])) a.lists.length → AllTo (fun i => eqSh d (a.parts.getD i dsh) (b.parts.getD i dsh)) a.parts.length → r = true
theorem eq_facts (d : Nat) (a b : Sh) : EqFacts d a b (eqSh (d + 1) a b) := by
  refine ⟨fun h => ?_, fun h => ?_, fun h => ?_, fun i hi h => ?_, fun i hi h => ?_, fun h1 h2 h3 h4 h5 => ?_⟩
  · unfold eqSh; rw [decide_eq_false h]; rfl
  · unfold eqSh eqLs; rw [decide_eq_false h]; simp
  · unfold eqSh; rw [decide_eq_false h]; simp
  · unfold eqSh eqLs; rw [all_no (f := fun i => eqPts (a.lists.getD i []) (b.lists.getD i [])) hi h]; simp
  · unfold eqSh; rw [all_no (f := fun i => eqSh d (a.parts.getD i dsh) (b.parts.getD i dsh)) hi h]; simp
  · unfold eqSh eqLs; rw [decide_eq_true h1, decide_eq_true h2, decide_eq_true h3, all_yes h4, all_yes h5]; rfl
structure PtFacts (ps qs : List (Nat × Nat)) (r : Bool) : Prop where
  len : ps.length ≠ qs.length → r = false
  pt : ∀ i, i < ps.length → eqP (ps.getD i (0, 0)) (qs.getD i (0, 0)) = false → r = false
  all : ps.length = qs.length → AllTo (fun i => eqP (ps.getD i (0, 0)) (qs.getD i (0, 0))) ps.length → r = true
theorem pt_facts (ps qs : List (Nat × Nat)) : PtFacts ps qs (eqPts ps qs) := by
  refine ⟨fun h => ?_, fun i hi h => ?_, fun h1 h2 => ?_⟩
  · unfold eqPts; rw [decide_eq_false h]; rfl
  · unfold eqPts; rw [all_no (f := fun i => eqP (ps.getD i (0, 0)) (qs.getD i (0, 0))) hi h]; simp
  · unfold eqPts; rw [decide_eq_true h1, all_yes h2]; rfl

set_option maxRecDepth 100000 in
set_option maxHeartbeats 8000000 in
theorem specEq_step (d : Nat) (a b : Sh) (lv pv lv' pv' : Value) (w : World) (ha : ShIn (d + 1) w lv pv a) (hb : ShIn (d + 1) w lv' pv' b) (r : Bool) (F : EqFacts d a b r)
    (ih : ∀ (i : Nat) (h : i < a.parts.length) (h' : i < b.parts.length) (lv pv lv' pv' : Value) (w : World), ShIn d w lv pv (a.parts[i]'h) → ShIn d w lv' pv' (b.parts[i]'h') → Calls Tryz.prog 8 #[.agg #[.int .i64 (a.parts[i]'h).kind, lv, pv], .agg #[.int .i64 (b.parts[i]'h').kind, lv', pv']] w (Ret w (.bool (eqSh d (a.parts[i]'h) (b.parts[i]'h'))))) :
    Calls Tryz.prog 8 #[.agg #[.int .i64 a.kind, lv, pv], .agg #[.int .i64 b.kind, lv', pv']] w (Ret w (.bool r)) := by
  obtain ⟨hla, a2, c2, rfl, hpa, hparts⟩ := ha
  obtain ⟨a1, c1, rfl, hna, hget⟩ := hla.get
  obtain ⟨hlb, b2, d2, rfl, hpb, hparts'⟩ := hb
  obtain ⟨b1, d1, rfl, hnb, hget'⟩ := hlb.get
  unfold big at hpa hpb hna hnb
  obtain ⟨f1, f2, f3, f4, f5, f6⟩ := F
  have F4 := Lib.hid f4
  have F5 := Lib.hid f5
  have Hget := Lib.hid hget
  have Hparts := Lib.hid hparts
  have Hget' := Lib.hid hget'
  have Hparts' := Lib.hid hparts'
  have Ih := Lib.hid ih
  clear hget hparts hget' hparts' hla hlb ih f4 f5
  obtain ⟨ka, hka⟩ : ∃ k, a.kind = k := ⟨_, rfl⟩
  obtain ⟨kb, hkb⟩ : ∃ k, b.kind = k := ⟨_, rfl⟩
  rw [hka, hkb] at f1 f6 ⊢
  clear hka hkb
  by_cases e1 : ka = kb
  · subst e1
    by_cases e2 : a.lists.length = b.lists.length
    · by_cases e3 : a.parts.length = b.parts.length
      · have F6 := Lib.hid (f6 rfl e2 e3)
        clear f1 f2 f3 f6
        obtain ⟨nl, hnl⟩ : ∃ n, b.lists.length = n := ⟨_, rfl⟩
        obtain ⟨np, hnp⟩ : ∃ n, b.parts.length = n := ⟨_, rfl⟩
        rw [hnl] at e2
        rw [hnp] at e3
        have E2 := Lib.hid e2
        have E3 := Lib.hid e3
        rw [e2, e3, hnl, hnp]
        have Hnl := Lib.hid hnl
        have Hnp := Lib.hid hnp
        rw [e2] at hna
        rw [e3] at hpa
        clear e2 e3 hnl hnp hnb hpb
        go_enter Tryz.func8, Tryz.ntmps8
        go_wp2_with fail
        go_loopw [35] (fun s35 wr => ∃ k : Nat, k ≤ nl ∧ s35 = .int .i64 k ∧ Kp w wr ∧ Box3 wr w.heap.size (.int .i64 ka) (.slice a1 nl c1) (.slice a2 np c2) ∧ Box3 wr (w.heap.size + 1) (.int .i64 ka) (.slice b1 nl d1) (.slice b2 np d2) ∧
          AllTo (fun i => eqPts (a.lists.getD i []) (b.lists.getD i [])) k) (fun s35 _ => nl - (intOf s35).toNat)
        case atStart => exact ⟨0, by omega, rfl, (by repeat (first | (with_reducible exact Kp.refl _) | (with_reducible assumption) | (with_reducible apply Kp.ext) | (with_reducible apply Kp.alloc) | (with_reducible apply Kp.drew) | (with_reducible apply Kp.drewN) | (with_reducible refine Kp.setCell ?_ (by first | (dsimp only; omega) | (simp; omega) | (simp; done) | (simp [size_ext_eq]; omega)) _))), (Box3.new _ _ _ _ _).kp (by repeat (first | (with_reducible exact Kp.refl _) | (with_reducible assumption) | (with_reducible apply Kp.ext) | (with_reducible apply Kp.alloc) | (with_reducible apply Kp.drew) | (with_reducible apply Kp.drewN) | (with_reducible refine Kp.setCell ?_ (by first | (dsimp only; omega) | (simp; omega) | (simp; done) | (simp [size_ext_eq]; omega)) _))), Box3.new' (by simp) _ _ _ _, fun i hi => by omega⟩
        case round =>
          obtain ⟨k, hk, rfl, hkp, hbox, hbox2, hall⟩ := hrel
          have Hall := Lib.hid hall
          clear hall
          obtain ⟨hB, q0, q1, q2⟩ := id hbox
          obtain ⟨hB', q0', q1', q2'⟩ := id hbox2
          by_cases hlt : k < nl
          · have hla : k < a.lists.length := by have := E2.out; omega
            have hlb : k < b.lists.length := by have := Hnl.out; omega
            obtain ⟨L, off, a', cap', rfl, hL, hc, hn1, hin, _⟩ := Hget.out k hla
            obtain ⟨L', off', b', cap2', rfl, hL', hc2, hn2, hin2, _⟩ := Hget'.out k hlb
            have hc := Kp.cell hkp hc hL
            have hc2 := Kp.cell hkp hc2 hL'
            have hLr : L < wr.heap.size := Nat.lt_of_lt_of_le hL hkp.size
            have hLr' : L' < wr.heap.size := Nat.lt_of_lt_of_le hL' hkp.size
            have hno := F4.out k hla
            have hg := getD_ls a.lists k hla
            have hg' := getD_ls b.lists k hlb
            have hin := hin.kp hkp
            have hin2 := hin2.kp hkp
            obtain ⟨ps, hps⟩ : ∃ ps, a.lists[k]'hla = ps := ⟨_, rfl⟩
            obtain ⟨qs, hqs⟩ : ∃ qs, b.lists[k]'hlb = qs := ⟨_, rfl⟩
            rw [hps] at hc hg hin hn1
            rw [hqs] at hc2 hg' hin2 hn2
            rw [hg, hg'] at hno
            obtain ⟨p1, p2, p3⟩ := pt_facts ps qs
            have hstep : eqPts ps qs = true → AllTo (fun i => eqPts (a.lists.getD i []) (b.lists.getD i [])) (k + 1) := fun h => Hall.out.succ (by simp only [hg, hg']; exact h)
            have Hstep := Lib.hid hstep
            have Hno := Lib.hid hno
            unfold big at hn1 hn2
            clear hg hg' hps hqs hstep hno
            by_cases el : ps.length = qs.length
            · obtain ⟨nq, hnq⟩ : ∃ n, qs.length = n := ⟨_, rfl⟩
              have P3 := Lib.hid (p3 el)
              rw [hnq] at el
              rw [el] at hc hn1
              rw [hnq] at hc2
              have El := Lib.hid el
              have Hnq := Lib.hid hnq
              have P2 := Lib.hid p2
              have Hin := Lib.hid hin
              have Hin2 := Lib.hid hin2
              clear el hnq p1 p2 p3 hin hin2 hn2
              have hlt1 : (k : Int) < (nl : Int) := by omega
              go_wp2_with fail
              first | (with_reducible refine wp_region_ext_lit2 ?_ ?_ ?_) | refine wp_region_ext_lit ?_ ?_ ?_
              kernel_rfl
              kernel_rfl
              repeat (go_big_quiet_step (fail))
              refine wpQuiet_nil ?_
              rintro _ ⟨u, rfl⟩
              go_wp2_with fail
              have hkr : Kp wr (ext wr u) := (Kp.refl _).ext u
              have hkq := hkp.trans hkr
              have hbq := hbox.kp hkr
              have hbq2 := hbox2.kp hkr
              have hcq := Kp.cell hkr hc hLr
              have hcq2 := Kp.cell hkr hc2 hLr'
              have hLq := Nat.lt_of_lt_of_le hLr hkr.size
              have hLq' := Nat.lt_of_lt_of_le hLr' hkr.size
              have Hinq := Lib.hid (Hin.out.kp hkr)
              have Hinq2 := Lib.hid (Hin2.out.kp hkr)
              clear hc hc2 q0 q1 q2 q0' q1' q2' hB hB' Hin Hin2 hLr hLr' hbox hbox2 hkp hkr
              generalize ext wr u = wq at *
              go_loopw [57] (fun s57 wx => ∃ j : Nat, j ≤ nq ∧ s57 = .int .i64 j ∧ Kp wq wx ∧ AllTo (fun i => eqP (ps.getD i (0, 0)) (qs.getD i (0, 0))) j) (fun s57 _ => nq - (intOf s57).toNat)
              case atStart => exact ⟨0, by omega, rfl, (by repeat (first | (with_reducible exact Kp.refl _) | (with_reducible assumption) | (with_reducible apply Kp.ext) | (with_reducible apply Kp.alloc) | (with_reducible apply Kp.drew) | (with_reducible apply Kp.drewN) | (with_reducible refine Kp.setCell ?_ (by first | (dsimp only; omega) | (simp; omega) | (simp; done) | (simp [size_ext_eq]; omega)) _))), fun i hi => by omega⟩
              case round =>
                obtain ⟨j, hj, rfl, hkx, hall2⟩ := hrel
                have Hall2 := Lib.hid hall2
                clear hall2
                have hkz := hkq.trans hkx
                by_cases hlt2 : j < nq
                · have hj1 : j < ps.length := by have := El.out; omega
                  have hj2 : j < qs.length := by have := Hnq.out; omega
                  obtain ⟨b3, o3, rfl, hb3, hpt⟩ := Hinq.out.cells (by omega)
                  obtain ⟨b4, o4, rfl, hb4, hpt'⟩ := Hinq2.out.cells (by omega)
                  obtain ⟨e0, e1⟩ := hpt.kp hb3 hkx j hj1
                  obtain ⟨g0, g1⟩ := hpt'.kp hb4 hkx j hj2
                  have hgd := getD_in ps j hj1
                  have hgd' := getD_in qs j hj2
                  have hb3x := Nat.lt_of_lt_of_le hb3 hkx.size
                  have hb4x := Nat.lt_of_lt_of_le hb4 hkx.size
                  obtain ⟨⟨px, py⟩, hq⟩ : ∃ q, ps[j]'hj1 = q := ⟨_, rfl⟩
                  obtain ⟨⟨qx, qy⟩, hq'⟩ : ∃ q, qs[j]'hj2 = q := ⟨_, rfl⟩
                  rw [hq] at e0 e1 hgd
                  rw [hq'] at g0 g1 hgd'
                  have hno := P2.out j hj1
                  have hyes := Hall2.out.succ (k := j)
                  simp only [hgd, hgd'] at hno hyes
                  have n1 := fun w => run_neq_pt px py qx qy w
                  obtain ⟨_, q0', q1', q2'⟩ := hbq2.kp hkx
                  have hB2 := (hbq2.kp hkx).hi
                  have hB3 := Nat.lt_of_succ_lt hB2
                  have hcz := Kp.cell hkx hcq2 hLq'
                  have hLz := Nat.lt_of_lt_of_le hLq' hkx.size
                  have hj3 : (j : Int) < (nq : Int) := by omega
                  have hj4 : (k : Int) < (nl : Int) := by omega
                  change eqP (px, py) (qx, qy) = _ → _ at hno
                  change eqP (px, py) (qx, qy) = _ → _ at hyes
                  change ∀ w, _ at n1
                  clear hq hq' hgd hgd' hpt hpt'
                  cases c : eqP (px, py) (qx, qy)
                  · have hr : r = false := Hno.out (hno c)
                    have c' : (eqF px qx && eqF py qy) = false := c
                    rw [c'] at n1
                    subst hr
                    clear hno hyes c c'
                    go_wp2_with fail
                    first | (with_reducible refine wp_region_ext_lit2 ?_ ?_ ?_) | refine wp_region_ext_lit ?_ ?_ ?_
                    kernel_rfl
                    kernel_rfl
                    repeat (go_big_quiet_step (fail))
                    refine wpQuiet_nil ?_
                    rintro _ ⟨u, rfl⟩
                    go_wp2_with fail
                    go_ret
                    exact Ret.mk rfl (by repeat (first | (with_reducible exact Kp.refl _) | (with_reducible assumption) | (with_reducible apply Kp.ext) | (with_reducible apply Kp.alloc) | (with_reducible apply Kp.drew) | (with_reducible apply Kp.drewN) | (with_reducible refine Kp.setCell ?_ (by first | (dsimp only; omega) | (simp; omega) | (simp; done) | (simp [size_ext_eq]; omega)) _)))
                  · have hnx := Lib.hid (hyes c)
                    have c' : (eqF px qx && eqF py qy) = true := c
                    rw [c'] at n1
                    clear hno hyes c c'
                    go_wp2_with fail
                    first | (with_reducible refine wp_region_ext_lit2 ?_ ?_ ?_) | refine wp_region_ext_lit ?_ ?_ ?_
                    kernel_rfl
                    kernel_rfl
                    repeat (go_big_quiet_step (fail))
                    refine wpQuiet_nil ?_
                    rintro _ ⟨u, rfl⟩
                    go_wp2_with fail
                    go_roundw
                    case rel => exact ⟨j + 1, by omega, by go_num, (by repeat (first | (with_reducible exact Kp.refl _) | (with_reducible assumption) | (with_reducible apply Kp.ext) | (with_reducible apply Kp.alloc) | (with_reducible apply Kp.drew) | (with_reducible apply Kp.drewN) | (with_reducible refine Kp.setCell ?_ (by first | (dsimp only; omega) | (simp; omega) | (simp; done) | (simp [size_ext_eq]; omega)) _))), hnx.out⟩
                    case measure => simp [intOf]; omega
                · obtain rfl : j = nq := by omega
                  have hnx := Lib.hid (Hstep.out (P3.out (by rw [El.out]; exact Hall2.out)))
                  go_wp2_with fail
                  go_roundw
                  case rel => exact ⟨k + 1, by omega, by go_num, hkz, hbq.kp hkx, hbq2.kp hkx, hnx.out⟩
                  case measure => simp [intOf]; omega
            · have hr : r = false := Hno.out (p1 el)
              have el1 : (ps.length == qs.length) = false := beq_eq_false_iff_ne.2 el
              have el2 : ((ps.length : Int) == (qs.length : Int)) = false := beq_eq_false_iff_ne.2 (by omega)
              have el3 : (ps.length = qs.length) = False := eq_false el
              have hlt1 : (k : Int) < (nl : Int) := by omega
              subst hr
              clear p1 p2 p3 el hin hin2
              go_wp2_with fail
              first | (with_reducible refine wp_region_ext_lit2 ?_ ?_ ?_) | refine wp_region_ext_lit ?_ ?_ ?_
              kernel_rfl
              kernel_rfl
              repeat (go_big_quiet_step (fail))
              refine wpQuiet_nil ?_
              rintro _ ⟨u, rfl⟩
              go_wp2_with fail
              go_ret
              exact Ret.mk rfl (by repeat (first | (with_reducible exact Kp.refl _) | (with_reducible assumption) | (with_reducible apply Kp.ext) | (with_reducible apply Kp.alloc) | (with_reducible apply Kp.drew) | (with_reducible apply Kp.drewN) | (with_reducible refine Kp.setCell ?_ (by first | (dsimp only; omega) | (simp; omega) | (simp; done) | (simp [size_ext_eq]; omega)) _)))
          · obtain rfl : k = nl := by omega
            have F7 := Lib.hid (F6.out (by rw [E2.out]; exact Hall.out))
            go_wp2_with fail
            go_loopw [77] (fun s77 wx => ∃ j : Nat, j ≤ np ∧ s77 = .int .i64 j ∧ Kp wr wx ∧ AllTo (fun i => eqSh d (a.parts.getD i dsh) (b.parts.getD i dsh)) j) (fun s77 _ => np - (intOf s77).toNat)
            case atStart => exact ⟨0, by omega, rfl, (by repeat (first | (with_reducible exact Kp.refl _) | (with_reducible assumption) | (with_reducible apply Kp.ext) | (with_reducible apply Kp.alloc) | (with_reducible apply Kp.drew) | (with_reducible apply Kp.drewN) | (with_reducible refine Kp.setCell ?_ (by first | (dsimp only; omega) | (simp; omega) | (simp; done) | (simp [size_ext_eq]; omega)) _))), fun i hi => by omega⟩
            case round =>
              obtain ⟨j, hj, rfl, hkx, hall2⟩ := hrel
              have Hall2 := Lib.hid hall2
              clear hall2
              have hkz := hkp.trans hkx
              by_cases hlt2 : j < np
              · have hj1 : j < a.parts.length := by have := E3.out; omega
                have hj2 : j < b.parts.length := by have := Hnp.out; omega
                obtain ⟨p, po, rfl, hp, hcell⟩ : ∃ b off, a2 = some ⟨b, off, none⟩ ∧ b < w.heap.size ∧ ∀ (i : Nat) (h : i < a.parts.length), ∃ lv' pv', w.cell? ⟨b, off + i * 3, none⟩ = some (.int .i64 (a.parts[i]'h).kind) ∧
                    w.cell? ⟨b, off + i * 3 + 1, none⟩ = some lv' ∧ w.cell? ⟨b, off + i * 3 + 2, none⟩ = some pv' ∧ ShIn d w lv' pv' (a.parts[i]'h) := by
                  rcases Hparts.out with h | h
                  · rw [h] at hj1; simp at hj1
                  · exact h
                obtain ⟨p', po', rfl, hp', hcell'⟩ : ∃ b' off, b2 = some ⟨b', off, none⟩ ∧ b' < w.heap.size ∧ ∀ (i : Nat) (h : i < b.parts.length), ∃ lv' pv', w.cell? ⟨b', off + i * 3, none⟩ = some (.int .i64 (b.parts[i]'h).kind) ∧
                    w.cell? ⟨b', off + i * 3 + 1, none⟩ = some lv' ∧ w.cell? ⟨b', off + i * 3 + 2, none⟩ = some pv' ∧ ShIn d w lv' pv' (b.parts[i]'h) := by
                  rcases Hparts'.out with h | h
                  · rw [h] at hj2; simp at hj2
                  · exact h
                obtain ⟨lv', pv', g0, g1, g2, g3⟩ := hcell j hj1
                obtain ⟨lw', pw', h0, h1, h2, h3⟩ := hcell' j hj2
                obtain ⟨⟨a3, n3, c3, rfl⟩, a4, n4, c4, rfl⟩ := g3.form
                obtain ⟨⟨a5, n5, c5, rfl⟩, a6, n6, c6, rfl⟩ := h3.form
                have g0 := Kp.cell hkz g0 hp
                have g1 := Kp.cell hkz g1 hp
                have g2 := Kp.cell hkz g2 hp
                have h0 := Kp.cell hkz h0 hp'
                have h1 := Kp.cell hkz h1 hp'
                have h2 := Kp.cell hkz h2 hp'
                have hpx := Nat.lt_of_lt_of_le hp hkz.size
                have hpx' := Nat.lt_of_lt_of_le hp' hkz.size
                have hI := fun w' (hk' : Kp _ w') => Ih.out j hj1 hj2 _ _ _ _ w' ((g3.kp hkz).kp hk') ((h3.kp hkz).kp hk')
                have hgd := getD_sh a.parts j hj1
                have hgd' := getD_sh b.parts j hj2
                have hno := F5.out j hj1
                have hyes := Hall2.out.succ (k := j)
                simp only [hgd, hgd'] at hno hyes
                obtain ⟨q, hq⟩ : ∃ q, a.parts[j]'hj1 = q := ⟨_, rfl⟩
                obtain ⟨t, ht⟩ : ∃ t, b.parts[j]'hj2 = t := ⟨_, rfl⟩
                simp only [hq] at g0 hI hno hyes
                simp only [ht] at h0 hI hno hyes
                obtain ⟨hX, x0, x1, x2⟩ := hbox.kp hkx
                obtain ⟨hY, y0, y1, y2⟩ := hbox2.kp hkx
                have hj3 : (j : Int) < (np : Int) := by omega
                clear hq ht hgd hgd' g3 h3 hcell hcell'
                cases cq : eqSh d q t
                · have hr : r = false := hno cq
                  rw [cq] at hI
                  have HI := Lib.hid hI
                  clear hI cq hno hyes
                  subst hr
                  go_wp2_with fail
                  first | (with_reducible refine wp_region_ext_lit2 ?_ ?_ ?_) | refine wp_region_ext_lit ?_ ?_ ?_
                  kernel_rfl
                  kernel_rfl
                  repeat (go_big_quiet_step (first | (go_at_call 8; with_reducible exact Ret.quiet (HI.out _ (by repeat (first | (with_reducible exact Kp.refl _) | (with_reducible assumption) | (with_reducible apply Kp.ext) | (with_reducible apply Kp.alloc) | (with_reducible apply Kp.drew) | (with_reducible apply Kp.drewN) | (with_reducible refine Kp.setCell ?_ (by first | (dsimp only; omega) | (simp; omega) | (simp; done) | (simp [size_ext_eq]; omega)) _)))))))
                  refine wpQuiet_nil ?_
                  rintro _ ⟨u, rfl⟩
                  go_wp2_with fail
                  go_ret
                  exact Ret.mk rfl (by repeat (first | (with_reducible exact Kp.refl _) | (with_reducible assumption) | (with_reducible apply Kp.ext) | (with_reducible apply Kp.alloc) | (with_reducible apply Kp.drew) | (with_reducible apply Kp.drewN) | (with_reducible refine Kp.setCell ?_ (by first | (dsimp only; omega) | (simp; omega) | (simp; done) | (simp [size_ext_eq]; omega)) _)))
                · have hnx := Lib.hid (hyes cq)
                  rw [cq] at hI
                  have HI := Lib.hid hI
                  clear hI cq hno hyes
                  go_wp2_with fail
                  first | (with_reducible refine wp_region_ext_lit2 ?_ ?_ ?_) | refine wp_region_ext_lit ?_ ?_ ?_
                  kernel_rfl
                  kernel_rfl
                  repeat (go_big_quiet_step (first | (go_at_call 8; with_reducible exact Ret.quiet (HI.out _ (by repeat (first | (with_reducible exact Kp.refl _) | (with_reducible assumption) | (with_reducible apply Kp.ext) | (with_reducible apply Kp.alloc) | (with_reducible apply Kp.drew) | (with_reducible apply Kp.drewN) | (with_reducible refine Kp.setCell ?_ (by first | (dsimp only; omega) | (simp; omega) | (simp; done) | (simp [size_ext_eq]; omega)) _)))))))
                  refine wpQuiet_nil ?_
                  rintro _ ⟨u, rfl⟩
                  go_wp2_with fail
                  go_roundw
                  case rel => exact ⟨j + 1, by omega, by go_num, (by repeat (first | (with_reducible exact Kp.refl _) | (with_reducible assumption) | (with_reducible apply Kp.ext) | (with_reducible apply Kp.alloc) | (with_reducible apply Kp.drew) | (with_reducible apply Kp.drewN) | (with_reducible refine Kp.setCell ?_ (by first | (dsimp only; omega) | (simp; omega) | (simp; done) | (simp [size_ext_eq]; omega)) _))), hnx.out⟩
                  case measure => simp [intOf]; omega
              · obtain rfl : j = np := by omega
                have hr : r = true := F7.out (by rw [E3.out]; exact Hall2.out)
                subst hr
                go_wp2_with fail
                go_ret
                exact Ret.mk rfl (by repeat (first | (with_reducible exact Kp.refl _) | (with_reducible assumption) | (with_reducible apply Kp.ext) | (with_reducible apply Kp.alloc) | (with_reducible apply Kp.drew) | (with_reducible apply Kp.drewN) | (with_reducible refine Kp.setCell ?_ (by first | (dsimp only; omega) | (simp; omega) | (simp; done) | (simp [size_ext_eq]; omega)) _)))
      · have hr := f3 e3
        have el1 : (a.parts.length == b.parts.length) = false := beq_eq_false_iff_ne.2 e3
        have el2 : ((a.parts.length : Int) == (b.parts.length : Int)) = false := beq_eq_false_iff_ne.2 (by omega)
        have el3 : (a.parts.length = b.parts.length) = False := eq_false e3
        subst hr
        obtain ⟨nl, hnl⟩ : ∃ n, b.lists.length = n := ⟨_, rfl⟩
        rw [e2, hnl]
        clear f1 f2 f3 f6 e3 e2 hnl
        go_enter Tryz.func8, Tryz.ntmps8
        go_wp2_with fail
        go_ret
        exact Ret.mk rfl (by repeat (first | (with_reducible exact Kp.refl _) | (with_reducible assumption) | (with_reducible apply Kp.ext) | (with_reducible apply Kp.alloc) | (with_reducible apply Kp.drew) | (with_reducible apply Kp.drewN) | (with_reducible refine Kp.setCell ?_ (by first | (dsimp only; omega) | (simp; omega) | (simp; done) | (simp [size_ext_eq]; omega)) _)))
    · have hr := f2 e2
      have el1 : (a.lists.length == b.lists.length) = false := beq_eq_false_iff_ne.2 e2
      have el2 : ((a.lists.length : Int) == (b.lists.length : Int)) = false := beq_eq_false_iff_ne.2 (by omega)
      have el3 : (a.lists.length = b.lists.length) = False := eq_false e2
      subst hr
      clear f1 f2 f3 f6 e2
      go_enter Tryz.func8, Tryz.ntmps8
      go_wp2_with fail
      go_ret
      exact Ret.mk rfl (by repeat (first | (with_reducible exact Kp.refl _) | (with_reducible assumption) | (with_reducible apply Kp.ext) | (with_reducible apply Kp.alloc) | (with_reducible apply Kp.drew) | (with_reducible apply Kp.drewN) | (with_reducible refine Kp.setCell ?_ (by first | (dsimp only; omega) | (simp; omega) | (simp; done) | (simp [size_ext_eq]; omega)) _)))
  · have hr := f1 e1
    have el1 : (ka == kb) = false := beq_eq_false_iff_ne.2 e1
    have el3 : (ka = kb) = False := eq_false e1
    subst hr
    clear f1 f2 f3 f6 e1
    go_enter Tryz.func8, Tryz.ntmps8
    go_wp2_with fail
    go_ret
    exact Ret.mk rfl (by repeat (first | (with_reducible exact Kp.refl _) | (with_reducible assumption) | (with_reducible apply Kp.ext) | (with_reducible apply Kp.alloc) | (with_reducible apply Kp.drew) | (with_reducible apply Kp.drewN) | (with_reducible refine Kp.setCell ?_ (by first | (dsimp only; omega) | (simp; omega) | (simp; done) | (simp [size_ext_eq]; omega)) _)))
end Go.Proofs.YtohidpmkoehmcaaGreat
