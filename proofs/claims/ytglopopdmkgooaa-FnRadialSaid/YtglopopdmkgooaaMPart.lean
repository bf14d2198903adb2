/-
  spec.Different, laws.isLine, spec.IsPart, walked.
  spec.IsPart, walked: the indices of the points that are kept.
-/
import Derived.Test.YtglopopdmkgooaaMDp
namespace Go.Proofs.Ytglopopdmkgooaa
open PubFl Go.RowKit PubVis

attribute [local go_sem] cell_ext frozen_ext ext_setCell cell_store size_ext_eq lt_p0 lt_p1 lt_p2 lt_p3 lt_p4 lt_p5 lt_p6 lt_p7 lt_p8 lt_p9 lt_p10 lt_p11 lt_p12 lt_p13 lt_p14 lt_p15 lt_p16 lt_p17 lt_p18 lt_p19 lt_p20 lt_p21 lt_p22 lt_p23 lt_p24 lt_p25 lt_p26 lt_p27 lt_p28 lt_p29 lt_p30 lt_p31 lt_p32 lt_q1 lt_q2 lt_q3 lt_q4 lt_q5 lt_q6 lt_q7 lt_q8 lt_q9 lt_q10 lt_q11 lt_q12 lt_q13 lt_q14 lt_q15 lt_q16 lt_q17 lt_q18 lt_q19 lt_q20 lt_q21 lt_q22 lt_q23 lt_q24 lt_q25 lt_q26 lt_q27 lt_q28 lt_q29 lt_q30 lt_q31 lt_q32 run_fop run_store_float
attribute [local go_sem high] cmp_eql cmp_neq cmp_lss cmp_leq cmp_gtr cmp_geq

theorem rowDiff_false {ps : List (Nat × Nat)} {k j : Nat} (hj : j < k) (h : ptEq ps k j = true) : rowDiff ps k = false :=
  List.all_eq_false.2 ⟨j, List.mem_range.2 hj, by rw [h]; decide⟩
theorem rowDiff_true {ps : List (Nat × Nat)} {k : Nat} (h : ∀ j, j < k → ptEq ps k j = false) : rowDiff ps k = true :=
  List.all_eq_true.2 fun j hj => by rw [h j (List.mem_range.1 hj)]; rfl
theorem diffB_false {ps : List (Nat × Nat)} {k : Nat} (hk : k < ps.length) (h : rowDiff ps k = false) : diffB ps = false :=
  List.all_eq_false.2 ⟨k, List.mem_range.2 hk, by rw [h]; decide⟩
theorem diffB_true {ps : List (Nat × Nat)} (h : ∀ k, k < ps.length → rowDiff ps k = true) : diffB ps = true :=
  List.all_eq_true.2 fun k hk => h k (List.mem_range.1 hk)

set_option maxRecDepth 20000 in
set_option maxHeartbeats 1000000 in
theorem different_c (a : Option Addr) (cap : Nat) (ps : List (Nat × Nat)) (hn : ps.length ≤ 1000) (hcap : ps.length ≤ cap) (w : World) (hs : PtsIn w a ps) :
    Calls Try.prog 20 #[.slice a ps.length cap] w (Ret w (.bool (diffB ps))) := by
  go_enter Try.func20, Try.ntmps20
  go_wp2_with fail
  go_loopw [9] (fun i wr => ∃ k : Nat, k ≤ ps.length ∧ i = .int .i64 k ∧ Kp w wr ∧ ∀ i, i < k → rowDiff ps i = true) (fun i _ => ps.length - (intOf i).toNat)
  case atStart => exact ⟨0, Nat.zero_le _, rfl, (by repeat (first | (with_reducible exact Kp.refl _) | (with_reducible assumption) | (with_reducible apply Kp.ext) | (with_reducible apply Kp.alloc) | (with_reducible apply Kp.drew) | (with_reducible apply Kp.drewN) | (with_reducible refine Kp.setCell ?_ (by first | (dsimp only; omega) | (simp; omega) | (simp; done) | (simp [size_ext_eq]; omega)) _))), fun i hi => by omega⟩
  case round =>
    obtain ⟨k, hkn, rfl, hkp, hall⟩ := hrel
    have Hall := Lib.hid hall
    clear hall
    by_cases hlt : k < ps.length
    · obtain ⟨b, off, rfl, hb, hpt⟩ : ∃ b off, a = some ⟨b, off, none⟩ ∧ b < w.heap.size ∧ PtsAt w b off ps := by
        rcases hs with hs | hs
        · subst hs; simp at hlt
        · exact hs
      obtain ⟨e0, e1⟩ := hpt.kp hb hkp k hlt
      have Hpt := Lib.hid hpt
      have hpk : ptAt ps k = ps[k]'hlt := getD_in _ _ hlt
      obtain ⟨⟨px, py⟩, hq⟩ : ∃ q, ps[k]'hlt = q := ⟨_, rfl⟩
      rw [hq] at e0 e1 hpk
      have Hpk := Lib.hid hpk
      have hbk : b < wr.heap.size := Nat.lt_of_lt_of_le hb hkp.size
      generalize wr = wo at *
      clear hq hpt hpk
      go_wp2_with fail
      go_loopw [18] (fun i wr => ∃ j : Nat, j ≤ k ∧ i = .int .i64 j ∧ Kp w wr ∧ NewPt wo wr wo.heap.size px py ∧ ∀ i, i < j → ptEq ps k i = false) (fun i _ => k - (intOf i).toNat)
      case atStart => exact ⟨0, Nat.zero_le _, rfl, (by repeat (first | (with_reducible exact Kp.refl _) | (with_reducible assumption) | (with_reducible apply Kp.ext) | (with_reducible apply Kp.alloc) | (with_reducible apply Kp.drew) | (with_reducible apply Kp.drewN) | (with_reducible refine Kp.setCell ?_ (by first | (dsimp only; omega) | (simp; omega) | (simp; done) | (simp [size_ext_eq]; omega)) _))), (by repeat (first | assumption | ((with_reducible refine NewPt.at ?_ _ _ _ ?_) <;> (first | (simp; done) | (simp; omega) | omega | (simp [size_ext_eq]; done) | (simp [size_ext_eq]; omega))) | (with_reducible apply NewPt.alloc) | (with_reducible apply NewPt.drew) | (with_reducible apply NewPt.drewN) | (with_reducible apply NewPt.ext) | (with_reducible exact NewPt.store (by assumption) _ _) | (with_reducible refine NewPt.other ?_ (by omega) _ _))), fun i hi => by omega⟩
      case round =>
        obtain ⟨j, hjk, rfl, hkj, m, hno⟩ := hrel
        have Hno := Lib.hid hno
        clear hno
        by_cases hjl : j < k
        · obtain ⟨f0, f1⟩ := Hpt.out.kp hb hkj j (by omega)
          have hpj : ptAt ps j = ps[j]'(by omega) := getD_in _ _ (by omega)
          obtain ⟨⟨qx, qy⟩, hq⟩ : ∃ q, ps[j]'(by omega) = q := ⟨_, rfl⟩
          rw [hq] at f0 f1 hpj
          have he : ptEq ps k j = (eqF px qx && eqF py qy) := by unfold ptEq; rw [Hpk.out, hpj]
          have hbj : b < wr.heap.size := Nat.lt_of_lt_of_le hb hkj.size
          obtain ⟨_, i1, p0, p1, z0, z1⟩ := id m
          have heq := fun w' => run_eql_pt px py qx qy w'
          rw [← he] at heq
          clear hq hpj he
          cases c : ptEq ps k j
          · rw [c] at heq
            have Hc := Lib.hid c
            clear c
            go_wp2_with fail
            go_roundw
            case rel => exact ⟨j + 1, by omega, by go_num, (by repeat (first | (with_reducible exact Kp.refl _) | (with_reducible assumption) | (with_reducible apply Kp.ext) | (with_reducible apply Kp.alloc) | (with_reducible apply Kp.drew) | (with_reducible apply Kp.drewN) | (with_reducible refine Kp.setCell ?_ (by first | (dsimp only; omega) | (simp; omega) | (simp; done) | (simp [size_ext_eq]; omega)) _))), (by repeat (first | assumption | ((with_reducible refine NewPt.at ?_ _ _ _ ?_) <;> (first | (simp; done) | (simp; omega) | omega | (simp [size_ext_eq]; done) | (simp [size_ext_eq]; omega))) | (with_reducible apply NewPt.alloc) | (with_reducible apply NewPt.drew) | (with_reducible apply NewPt.drewN) | (with_reducible apply NewPt.ext) | (with_reducible exact NewPt.store (by assumption) _ _) | (with_reducible refine NewPt.other ?_ (by omega) _ _))), fun i hi => by
              by_cases c : i = j
              · subst c; exact Hc.out
              · exact Hno.out i (by omega)⟩
            case measure => simp [intOf]; omega
          · rw [c] at heq
            have Hd := Lib.hid (diffB_false hlt (rowDiff_false hjl c))
            clear c
            go_wp2_with fail
            go_ret
            exact Ret.mk (by rw [Hd.out]; rfl) (by repeat (first | (with_reducible exact Kp.refl _) | (with_reducible assumption) | (with_reducible apply Kp.ext) | (with_reducible apply Kp.alloc) | (with_reducible apply Kp.drew) | (with_reducible apply Kp.drewN) | (with_reducible refine Kp.setCell ?_ (by first | (dsimp only; omega) | (simp; omega) | (simp; done) | (simp [size_ext_eq]; omega)) _)))
        · have hr : rowDiff ps k = true := rowDiff_true fun i hi => Hno.out i (by omega)
          have Hr := Lib.hid hr
          clear hr
          go_wp2_with fail
          go_roundw
          case rel => exact ⟨k + 1, by omega, by go_num, (by repeat (first | (with_reducible exact Kp.refl _) | (with_reducible assumption) | (with_reducible apply Kp.ext) | (with_reducible apply Kp.alloc) | (with_reducible apply Kp.drew) | (with_reducible apply Kp.drewN) | (with_reducible refine Kp.setCell ?_ (by first | (dsimp only; omega) | (simp; omega) | (simp; done) | (simp [size_ext_eq]; omega)) _))), fun i hi => by
            by_cases c : i = k
            · subst c; exact Hr.out
            · exact Hall.out i (by omega)⟩
          case measure => simp [intOf]; omega
    · obtain rfl : k = ps.length := by omega
      have Hd := Lib.hid (diffB_true Hall.out)
      go_wp2_with fail
      go_ret
      exact Ret.mk (by rw [Hd.out]; rfl) (by repeat (first | (with_reducible exact Kp.refl _) | (with_reducible assumption) | (with_reducible apply Kp.ext) | (with_reducible apply Kp.alloc) | (with_reducible apply Kp.drew) | (with_reducible apply Kp.drewN) | (with_reducible refine Kp.setCell ?_ (by first | (dsimp only; omega) | (simp; omega) | (simp; done) | (simp [size_ext_eq]; omega)) _)))

set_option maxRecDepth 20000 in
theorem isLine_c (a : Option Addr) (cap : Nat) (ps : List (Nat × Nat)) (hn : ps.length ≤ 2147483647) (hcap : ps.length ≤ cap) (w : World) (hs : PtsIn w a ps) (hbits : Bits ps) :
    Calls Try.prog 7 #[.slice a ps.length cap] w (Ret w (.bool (lineB ps))) := by
  have har := Lib.hid (fun w' (hk : Kp w w') => arePoints_c a cap ps 40 hn w' (hs.kp hk) hbits)
  cases c1 : arePtsB ps 40
  · have hr : lineB ps = false := by unfold lineB; rw [c1]; rfl
    have Hr := Lib.hid hr
    rw [c1] at har
    clear hr c1
    go_enter Try.func7, Try.ntmps7
    go_wp2_with (go_at_call 19; (first | (with_reducible refine (Ret.at_ext (har.out _ (by repeat (first | (with_reducible exact Kp.refl _) | (with_reducible assumption) | (with_reducible apply Kp.ext) | (with_reducible apply Kp.alloc) | (with_reducible apply Kp.drew) | (with_reducible apply Kp.drewN) | (with_reducible refine Kp.setCell ?_ (by first | (dsimp only; omega) | (simp; omega) | (simp; done) | (simp [size_ext_eq]; omega)) _))))).mono ?_) | (with_reducible refine (har.out _ (by repeat (first | (with_reducible exact Kp.refl _) | (with_reducible assumption) | (with_reducible apply Kp.ext) | (with_reducible apply Kp.alloc) | (with_reducible apply Kp.drew) | (with_reducible apply Kp.drewN) | (with_reducible refine Kp.setCell ?_ (by first | (dsimp only; omega) | (simp; omega) | (simp; done) | (simp [size_ext_eq]; omega)) _)))).mono ?_)); rintro e w' ⟨rfl, u, rfl⟩)
    go_ret
    exact Ret.mk (by rw [Hr.out]; rfl) (by repeat (first | (with_reducible exact Kp.refl _) | (with_reducible assumption) | (with_reducible apply Kp.ext) | (with_reducible apply Kp.alloc) | (with_reducible apply Kp.drew) | (with_reducible apply Kp.drewN) | (with_reducible refine Kp.setCell ?_ (by first | (dsimp only; omega) | (simp; omega) | (simp; done) | (simp [size_ext_eq]; omega)) _)))
  · rw [c1] at har
    have h40 : ps.length ≤ 40 := by
      unfold arePtsB at c1
      simp only [Bool.and_eq_true, decide_eq_true_eq] at c1
      omega
    by_cases h2 : 2 ≤ ps.length
    · have hdf := Lib.hid (fun w' (hk : Kp w w') => different_c a cap ps (by omega) hcap w' (hs.kp hk))
      have hr : lineB ps = diffB ps := by unfold lineB; rw [c1, decide_eq_true h2]; rfl
      have Hr := Lib.hid hr
      have k1 : (2 ≤ (ps.length : Int)) = True := eq_true (by omega)
      clear hr c1
      go_enter Try.func7, Try.ntmps7
      go_wp2_with (first | (go_at_call 19; (first | (with_reducible refine (Ret.at_ext (har.out _ (by repeat (first | (with_reducible exact Kp.refl _) | (with_reducible assumption) | (with_reducible apply Kp.ext) | (with_reducible apply Kp.alloc) | (with_reducible apply Kp.drew) | (with_reducible apply Kp.drewN) | (with_reducible refine Kp.setCell ?_ (by first | (dsimp only; omega) | (simp; omega) | (simp; done) | (simp [size_ext_eq]; omega)) _))))).mono ?_) | (with_reducible refine (har.out _ (by repeat (first | (with_reducible exact Kp.refl _) | (with_reducible assumption) | (with_reducible apply Kp.ext) | (with_reducible apply Kp.alloc) | (with_reducible apply Kp.drew) | (with_reducible apply Kp.drewN) | (with_reducible refine Kp.setCell ?_ (by first | (dsimp only; omega) | (simp; omega) | (simp; done) | (simp [size_ext_eq]; omega)) _)))).mono ?_)); rintro e w' ⟨rfl, u, rfl⟩) | (go_at_call 20; (first | (with_reducible refine (Ret.at_ext (hdf.out _ (by repeat (first | (with_reducible exact Kp.refl _) | (with_reducible assumption) | (with_reducible apply Kp.ext) | (with_reducible apply Kp.alloc) | (with_reducible apply Kp.drew) | (with_reducible apply Kp.drewN) | (with_reducible refine Kp.setCell ?_ (by first | (dsimp only; omega) | (simp; omega) | (simp; done) | (simp [size_ext_eq]; omega)) _))))).mono ?_) | (with_reducible refine (hdf.out _ (by repeat (first | (with_reducible exact Kp.refl _) | (with_reducible assumption) | (with_reducible apply Kp.ext) | (with_reducible apply Kp.alloc) | (with_reducible apply Kp.drew) | (with_reducible apply Kp.drewN) | (with_reducible refine Kp.setCell ?_ (by first | (dsimp only; omega) | (simp; omega) | (simp; done) | (simp [size_ext_eq]; omega)) _)))).mono ?_)); rintro e w' ⟨rfl, u, rfl⟩))
      go_ret
      exact Ret.mk (by rw [Hr.out]; rfl) (by repeat (first | (with_reducible exact Kp.refl _) | (with_reducible assumption) | (with_reducible apply Kp.ext) | (with_reducible apply Kp.alloc) | (with_reducible apply Kp.drew) | (with_reducible apply Kp.drewN) | (with_reducible refine Kp.setCell ?_ (by first | (dsimp only; omega) | (simp; omega) | (simp; done) | (simp [size_ext_eq]; omega)) _)))
    · have hr : lineB ps = false := by unfold lineB; rw [c1, decide_eq_false h2]; rfl
      have Hr := Lib.hid hr
      have k1 : (2 ≤ (ps.length : Int)) = False := eq_false (by omega)
      clear hr c1 h2
      go_enter Try.func7, Try.ntmps7
      go_wp2_with (go_at_call 19; (first | (with_reducible refine (Ret.at_ext (har.out _ (by repeat (first | (with_reducible exact Kp.refl _) | (with_reducible assumption) | (with_reducible apply Kp.ext) | (with_reducible apply Kp.alloc) | (with_reducible apply Kp.drew) | (with_reducible apply Kp.drewN) | (with_reducible refine Kp.setCell ?_ (by first | (dsimp only; omega) | (simp; omega) | (simp; done) | (simp [size_ext_eq]; omega)) _))))).mono ?_) | (with_reducible refine (har.out _ (by repeat (first | (with_reducible exact Kp.refl _) | (with_reducible assumption) | (with_reducible apply Kp.ext) | (with_reducible apply Kp.alloc) | (with_reducible apply Kp.drew) | (with_reducible apply Kp.drewN) | (with_reducible refine Kp.setCell ?_ (by first | (dsimp only; omega) | (simp; omega) | (simp; done) | (simp [size_ext_eq]; omega)) _)))).mono ?_)); rintro e w' ⟨rfl, u, rfl⟩)
      go_ret
      exact Ret.mk (by rw [Hr.out]; rfl) (by repeat (first | (with_reducible exact Kp.refl _) | (with_reducible assumption) | (with_reducible apply Kp.ext) | (with_reducible apply Kp.alloc) | (with_reducible apply Kp.drew) | (with_reducible apply Kp.drewN) | (with_reducible refine Kp.setCell ?_ (by first | (dsimp only; omega) | (simp; omega) | (simp; done) | (simp [size_ext_eq]; omega)) _)))
end Go.Proofs.Ytglopopdmkgooaa

namespace Go.Proofs.Ytglopopdmkgooaa
open PubFl Go.RowKit PubVis

attribute [local go_sem] cell_ext frozen_ext ext_setCell cell_store size_ext_eq lt_p0 lt_p1 lt_p2 lt_p3 lt_p4 lt_p5 lt_p6 lt_p7 lt_p8 lt_p9 lt_p10 lt_p11 lt_p12 lt_p13 lt_p14 lt_p15 lt_p16 lt_p17 lt_p18 lt_p19 lt_p20 lt_p21 lt_p22 lt_p23 lt_p24 lt_p25 lt_p26 lt_p27 lt_p28 lt_p29 lt_p30 lt_p31 lt_p32 lt_q1 lt_q2 lt_q3 lt_q4 lt_q5 lt_q6 lt_q7 lt_q8 lt_q9 lt_q10 lt_q11 lt_q12 lt_q13 lt_q14 lt_q15 lt_q16 lt_q17 lt_q18 lt_q19 lt_q20 lt_q21 lt_q22 lt_q23 lt_q24 lt_q25 lt_q26 lt_q27 lt_q28 lt_q29 lt_q30 lt_q31 lt_q32 run_fop run_store_float
attribute [local go_sem high] cmp_eql cmp_neq cmp_lss cmp_leq cmp_gtr cmp_geq

/-- a row of indices -/
def idx (xs : List Nat) : List Value := xs.map fun i => .int .i64 (i : Nat)
theorem idx_length (xs : List Nat) : (idx xs).length = xs.length := List.length_map _
def PartPost (w : World) (xs : List Nat) (e : Ending) (w' : World) : Prop := ∃ v u, e = .returned (.tuple #[v, .bool true]) ∧ w' = ext w u ∧ w'.ownsRow w.heap.size 3 1 v xs.length (idx xs)
structure PartRel (w wr : World) (n : Nat) (L : Nat → Bool) (t : Nat) (v : Value) : Prop where
  tn : t ≤ n
  own : wr.ownsRow w.heap.size 3 1 v (cnt L t) (idx (kept L t))
  kp : Kp w wr

set_option maxRecDepth 20000 in
set_option maxHeartbeats 2000000 in
theorem isPart_c (a a' : Option Addr) (cap cap' : Nat) (ps : List (Nat × Nat)) (L : Nat → Bool) (hn : ps.length ≤ 1000) (h2 : 2 ≤ ps.length) (he : ∀ i j, i < ps.length → j < ps.length → ptEq ps i j = decide (i = j)) (h0 : L 0 = true) (hl : L (ps.length - 1) = true) (w : World)
    (hs : PtsIn w a ((kept L ps.length).map (ptAt ps))) (hs' : PtsIn w a' ps) :
    Calls Try.prog 10 #[.slice a (cnt L ps.length) cap, .slice a' ps.length cap'] w (PartPost w (kept L ps.length)) := by
  obtain ⟨i0, hi, hz0, hz1, hz2⟩ := info_parts infoIntT
  have hc2 := cnt_two_le h2 h0 hl
  have hcn := cnt_le L ps.length
  have hklen := kept_length L ps.length
  obtain ⟨b, off, rfl, hb, hpt⟩ := hs.cells (by rw [List.length_map]; omega)
  obtain ⟨b', off', rfl, hb', hpt'⟩ := hs'.cells (by omega)
  have Hpt := Lib.hid hpt
  have Hpt' := Lib.hid hpt'
  have He := Lib.hid he
  have H0 := Lib.hid h0
  have Hl := Lib.hid hl
  obtain ⟨m, hm⟩ : ∃ m, cnt L ps.length = m := ⟨_, rfl⟩
  obtain ⟨n, hnn⟩ : ∃ n, ps.length = n := ⟨_, rfl⟩
  rw [hnn] at hm hn h2 hc2 hcn hklen ⊢
  rw [hm] at hc2 hcn hklen ⊢
  have Hm := Lib.hid hm
  have Hn := Lib.hid hnn
  have Hk := Lib.hid hklen
  clear hs hs' hpt hpt' he h0 hl hm hnn hklen
  go_enter Try.func10, Try.ntmps10
  go_wp2_with fail
  go_loopw [6, 7, 13] (fun s6 s7 s13 wr => ∃ t : Nat, s7 = .int .i64 (t : Nat) ∧ s13 = .int .i64 (cnt L t : Nat) ∧ PartRel w wr n L t s6) (fun _ _ s13 _ => m - (intOf s13).toNat)
  case atStart => exact ⟨0, rfl, rfl, by omega, World.ownsRow_lit w #[] 0 (Nat.le_refl _) (by decide) rfl, (by repeat (first | (with_reducible exact Kp.refl _) | (with_reducible assumption) | (with_reducible apply Kp.ext) | (with_reducible apply Kp.alloc) | (with_reducible apply Kp.drew) | (with_reducible apply Kp.drewN) | (with_reducible refine Kp.setCell ?_ (by first | (dsimp only; omega) | (simp; omega) | (simp; done) | (simp [size_ext_eq]; omega)) _)))⟩
  case round =>
    obtain ⟨t, rfl, rfl, hr⟩ := hrel
    have htn := hr.tn
    have hct := cnt_le L t
    have hmono := cnt_mono (L := L) n htn
    rw [Hm.out] at hmono
    by_cases hlt : cnt L t < m
    · obtain ⟨i, hti, hin, hLi, hgap, hget⟩ := kept_nth (L := L) n htn (by rw [Hm.out]; exact hlt)
      obtain ⟨hkup, hcup⟩ := kept_upto hti hLi hgap
      have hnn := Hn.out
      have hkl := Hk.out
      have hgo : ((kept L ps.length).map (ptAt ps))[cnt L t]'(by rw [List.length_map, hnn, hkl]; exact hlt) = ptAt ps i := by
        rw [List.getElem_map]
        congr 1
        have := (List.getElem?_eq_some_iff.1 hget).2
        simp only [hnn]
        exact this
      obtain ⟨e0, e1⟩ := Hpt.out.kp hb hr.kp (cnt L t) (by rw [List.length_map, hnn, hkl]; exact hlt)
      rw [hgo] at e0 e1
      obtain ⟨⟨px, py⟩, hq⟩ : ∃ q, ptAt ps i = q := ⟨_, rfl⟩
      rw [hq] at e0 e1
      have Hq := Lib.hid hq
      have hbk : b < wr.heap.size := Nat.lt_of_lt_of_le hb hr.kp.size
      have hbk' : b' < wr.heap.size := Nat.lt_of_lt_of_le hb' hr.kp.size
      have Hkup := Lib.hid hkup
      have Hcup := Lib.hid hcup
      have Hr := Lib.hid hr
      obtain ⟨c, hc⟩ : ∃ c, cnt L t = c := ⟨_, rfl⟩
      have Hc := Lib.hid hc
      rw [hc] at e0 e1 hlt hct hmono ⊢
      generalize wr = wo at *
      clear hq hgo hnn hkl hget hgap hkup hcup hr hc hLi
      go_wp2_with fail
      go_loopw [7] (fun s7 wr => ∃ k : Nat, t ≤ k ∧ k ≤ i ∧ s7 = .int .i64 (k : Nat) ∧ Kp wo wr ∧ NewPt wo wr wo.heap.size px py) (fun s7 _ => i - (intOf s7).toNat)
      case atStart => exact ⟨t, by omega, hti, rfl, (by repeat (first | (with_reducible exact Kp.refl _) | (with_reducible assumption) | (with_reducible apply Kp.ext) | (with_reducible apply Kp.alloc) | (with_reducible apply Kp.drew) | (with_reducible apply Kp.drewN) | (with_reducible refine Kp.setCell ?_ (by first | (dsimp only; omega) | (simp; omega) | (simp; done) | (simp [size_ext_eq]; omega)) _))), (by repeat (first | assumption | ((with_reducible refine NewPt.at ?_ _ _ _ ?_) <;> (first | (simp; done) | (simp; omega) | omega | (simp [size_ext_eq]; done) | (simp [size_ext_eq]; omega))) | (with_reducible apply NewPt.alloc) | (with_reducible apply NewPt.drew) | (with_reducible apply NewPt.drewN) | (with_reducible apply NewPt.ext) | (with_reducible exact NewPt.store (by assumption) _ _) | (with_reducible refine NewPt.other ?_ (by omega) _ _)))⟩
      case round =>
        obtain ⟨k, htk, hki, rfl, hkp, mm⟩ := hrel
        have hnn := Hn.out
        have hkw := Hr.out.kp.trans hkp
        obtain ⟨f0, f1⟩ := Hpt'.out.kp hb' hkw k (by omega)
        have hpk : ptAt ps k = ps[k]'(by omega) := getD_in _ _ (by omega)
        obtain ⟨⟨qx, qy⟩, hq⟩ : ∃ q, ps[k]'(by omega) = q := ⟨_, rfl⟩
        rw [hq] at f0 f1 hpk
        have hEq := He.out k i (by omega) (by omega)
        have heq := fun w' => run_neq_pt qx qy px py w'
        have hE : ptEq ps k i = (eqF qx px && eqF qy py) := by unfold ptEq; rw [Hq.out, hpk]
        rw [← hE, hEq] at heq
        have hbr' : b' < wr.heap.size := Nat.lt_of_lt_of_le hb' hkw.size
        obtain ⟨_, i1, p0, p1, z0, z1⟩ := id mm
        have j1 : (k : Int) < (n : Int) := by omega
        clear hq hpk hE hEq hnn
        by_cases hkl : k < i
        · rw [decide_eq_false (by omega)] at heq
          go_wp2_with fail
          first | (with_reducible refine wp_region_ext_lit2 ?_ ?_ ?_) | refine wp_region_ext_lit ?_ ?_ ?_
          kernel_rfl
          kernel_rfl
          repeat (go_big_quiet_step (fail))
          refine wpQuiet_nil ?_
          rintro _ ⟨u, rfl⟩
          go_wp2_with fail
          go_roundw
          case rel => exact ⟨k + 1, by omega, by omega, by go_num, (by repeat (first | (with_reducible exact Kp.refl _) | (with_reducible assumption) | (with_reducible apply Kp.ext) | (with_reducible apply Kp.alloc) | (with_reducible apply Kp.drew) | (with_reducible apply Kp.drewN) | (with_reducible refine Kp.setCell ?_ (by first | (dsimp only; omega) | (simp; omega) | (simp; done) | (simp [size_ext_eq]; omega)) _))), (by repeat (first | assumption | ((with_reducible refine NewPt.at ?_ _ _ _ ?_) <;> (first | (simp; done) | (simp; omega) | omega | (simp [size_ext_eq]; done) | (simp [size_ext_eq]; omega))) | (with_reducible apply NewPt.alloc) | (with_reducible apply NewPt.drew) | (with_reducible apply NewPt.drewN) | (with_reducible apply NewPt.ext) | (with_reducible exact NewPt.store (by assumption) _ _) | (with_reducible refine NewPt.other ?_ (by omega) _ _)))⟩
          case measure => simp [intOf]; omega
        · have hki2 : i = k := by omega
          subst hki2
          rw [decide_eq_true rfl] at heq
          have j2 : ((i : Int) == (n : Int)) = false := beq_eq_false_iff_ne.2 (by omega)
          go_wp2_with fail
          first | (with_reducible refine wp_region_ext_lit2 ?_ ?_ ?_) | refine wp_region_ext_lit ?_ ?_ ?_
          kernel_rfl
          kernel_rfl
          repeat (go_big_quiet_step (fail))
          refine wpQuiet_nil ?_
          rintro _ ⟨u, rfl⟩
          have hown := ownsRow_kp Hr.out.own (hkp.ext u)
          have Hown := Lib.hid hown
          have Hkw := Lib.hid (hkw.ext u)
          clear hown hkw
          go_wp2_with (at_builtin; refine wpList_append_own2 _ rfl (.tmp 35) (.tmp 37) 26 rfl w.heap.size 3 i0 (.int .i64 0) 1 8 Try.underlying26 hi hz0 hz1 hz2 rfl (by decide) _ (cnt L t) _ rfl (Hown.out.alloc _) ⟨wr.heap.size + dz wr.heap.size u, 0, none⟩ 1 1 [.int .i64 (i : Nat)] rfl rfl ?d1 ?d2 ?d3 ?d4 ?d5 ?_)
          case d1 =>
            intro j v hj
            match j, hj with
            | 0, hj =>
              have : v = .int .i64 (i : Nat) := by simpa using hj.symm
              subst this
              rw [← size_ext_eq]
              simp [Addr.add]
            | j + 1, hj => simp at hj
          case d2 => intro v hv; simp only [List.mem_cons, List.not_mem_nil, or_false] at hv; subst hv; rfl
          case d3 => unfold maxLen; omega
          case d4 => omega
          case d5 => have := Hkw.out.size; simp; omega
          intro v2 w2 hown2 hgrow2 hblk2
          have H2 := Lib.hid (show PartRel w w2 n L (i + 1) v2 from ⟨by omega, by rw [Hcup.out, Hkup.out]; simpa [idx] using hown2, Below.grown (Hkw.out.alloc _) hgrow2 (by have := Hkw.out.size; simp; omega) (fun q hq => (Hown.out.lt q hq).1)⟩)
          clear hown2 hgrow2 hblk2
          go_wp2_with fail
          go_roundw
          case rel => exact ⟨i + 1, by go_num, by rw [Hcup.out, Hc.out]; go_num, H2.out⟩
          case measure => simp [intOf]; omega
    · have hct2 : cnt L t = m := by omega
      have hka := kept_all htn (by rw [hct2]; exact Hm.out.symm)
      have hown := hr.own
      rw [hct2, hka] at hown
      obtain ⟨g, gc, rfl, hg1, hg2, hg3⟩ := ownsRow_some hown (by omega)
      have c0 := hown.cellAt 0 (by omega)
      have hk0 := kept_first (L := L) (n := n) (by omega) H0.out
      have hi0 : (idx (kept L n))[0]? = some (.int .i64 0) := by unfold idx; rw [List.getElem?_map, hk0]; rfl
      rw [hi0] at c0
      have Hown := Lib.hid hown
      have Hkp := Lib.hid hr.kp
      rw [hct2]
      have k1 : (2 ≤ (m : Int)) = True := eq_true (by omega)
      have hmm : 0 < m := by omega
      clear hct2 hka hown hk0 hi0 hr
      go_wp2_with fail
      first | (with_reducible refine wp_region_ext_lit2 ?_ ?_ ?_) | refine wp_region_ext_lit ?_ ?_ ?_
      kernel_rfl
      kernel_rfl
      repeat (go_big_quiet_step (fail))
      refine wpQuiet_nil ?_
      rintro _ ⟨u, rfl⟩
      go_wp2_with fail
      go_ret2
      exact ⟨_, _, rfl, ext_of (Hkp.out.ext u), by rw [Hk.out]; exact ownsRow_kp Hown.out ((Kp.refl _).ext u)⟩
end Go.Proofs.Ytglopopdmkgooaa
