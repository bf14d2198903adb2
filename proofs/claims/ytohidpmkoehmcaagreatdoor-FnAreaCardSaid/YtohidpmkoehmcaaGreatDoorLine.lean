/-
  Lists of points that a call makes: impl.pointsOf, impl.listOf.
-/
import Derived.Test.YtohidpmkoehmcaaGreatDoorMG2
import Derived.OwnWalk
import Derived.Laws.AppendOwn
import Derived.Laws.OwnMore
import Derived.Lib.Hide
set_option linter.all false
namespace Go.Proofs.YtohidpmkoehmcaaGreatDoor
open PubFl Go.RowKit

attribute [local go_sem] cell_ext frozen_ext ext_setCell cell_store size_ext_eq lt_p0 lt_p1 lt_p2 lt_p3 lt_p4 lt_p5 lt_p6 lt_p7 lt_p8 lt_p9 lt_p10 lt_p11 lt_p12 lt_p13 lt_p14 lt_p15 lt_p16 lt_p17 lt_p18 lt_p19 lt_p20 lt_p21 lt_p22 lt_p23 lt_p24 lt_p25 lt_p26 lt_p27 lt_p28 lt_p29 lt_p30 lt_p31 lt_p32 lt_q1 lt_q2 lt_q3 lt_q4 lt_q5 lt_q6 lt_q7 lt_q8 lt_q9 lt_q10 lt_q11 lt_q12 lt_q13 lt_q14 lt_q15 lt_q16 lt_q17 lt_q18 lt_q19 lt_q20 lt_q21 lt_q22 lt_q23 lt_q24 lt_q25 lt_q26 lt_q27 lt_q28 lt_q29 lt_q30 lt_q31 lt_q32 run_fop run_store_float
attribute [local go_sem high] cmp_eql cmp_neq cmp_lss cmp_leq cmp_gtr cmp_geq

/-- the cells of points -/
def cellsOf (ps : List (Nat × Nat)) : List Value := ps.flatMap fun p => [.float .f64 p.1, .float .f64 p.2]
theorem cellsOf_snoc (ps : List (Nat × Nat)) (p : Nat × Nat) : cellsOf (ps ++ [p]) = cellsOf ps ++ [.float .f64 p.1, .float .f64 p.2] := by
  unfold cellsOf; rw [List.flatMap_append]; rfl
theorem cellsOf_length (ps : List (Nat × Nat)) : (cellsOf ps).length = ps.length * 2 := by
  induction ps with
  | nil => rfl
  | cons p ps ih =>
    show ([Value.float .f64 p.1, .float .f64 p.2] ++ cellsOf ps).length = _
    rw [List.length_append, ih]; simp; omega
theorem cellsOf_get (ps : List (Nat × Nat)) (i : Nat) (h : i < ps.length) : (cellsOf ps)[i * 2]? = some (.float .f64 (ps[i]'h).1) ∧ (cellsOf ps)[i * 2 + 1]? = some (.float .f64 (ps[i]'h).2) := by
  induction ps generalizing i with
  | nil => simp at h
  | cons p ps ih =>
    have e : cellsOf (p :: ps) = .float .f64 p.1 :: .float .f64 p.2 :: cellsOf ps := rfl
    rw [e]
    cases i with
    | zero => exact ⟨rfl, rfl⟩
    | succ i =>
      have := ih i (by simpa using h)
      rw [show (i + 1) * 2 = i * 2 + 1 + 1 by omega]
      simpa using this

/-- a slice that came in holds points -/
def PtsIn (w : World) (a : Option Addr) (ps : List (Nat × Nat)) : Prop := ps = [] ∨ ∃ b off, a = some ⟨b, off, none⟩ ∧ b < w.heap.size ∧ PtsAt w b off ps
/-- a slice that the call made holds points -/
def PtsNew (w w' : World) (e : TypeId) (v : Value) (ps : List (Nat × Nat)) : Prop := w'.ownsRow w.heap.size e 2 v ps.length (cellsOf ps)
def RetO (w : World) (e : TypeId) (ps : List (Nat × Nat)) (en : Ending) (w' : World) : Prop := ∃ v u, en = .returned v ∧ w' = ext w u ∧ PtsNew w w' e v ps
theorem RetO.mk {w w' : World} {e : TypeId} {ps : List (Nat × Nat)} {en : Ending} {v : Value} (he : en = .returned v) (h : Kp w w') (hp : PtsNew w w' e v ps) : RetO w e ps en w' :=
  ⟨v, w', he, ext_of h, hp⟩
theorem PtsNew.form {w w' : World} {e : TypeId} {v : Value} {ps : List (Nat × Nat)} (h : PtsNew w w' e v ps) (hn : 0 < ps.length) :
    ∃ g cap, v = .slice (some ⟨g, 0, none⟩) ps.length cap ∧ w.heap.size ≤ g ∧ g < w'.heap.size ∧ ps.length ≤ cap ∧ cap ≤ maxLen ∧ PtsAt w' g 0 ps := by
  obtain ⟨hl, h⟩ := h
  rcases h with ⟨_, h0⟩ | ⟨g, cap, cur, hv, hg, hh, h1, h2, h3, h4⟩
  · omega
  · refine ⟨g, cap, hv, hg, ?_, h1, h2, fun i hi => ?_⟩
    · rcases Nat.lt_or_ge g w'.heap.size with c | c
      · exact c
      · rw [Array.getElem?_eq_none c] at hh; cases hh
    · obtain ⟨g1, g2⟩ := cellsOf_get ps i hi
      have hc : ∀ j, j < ps.length * 2 → w'.cell? ⟨g, 0 + j, none⟩ = (cellsOf ps)[j]? := by
        intro j hj
        rw [← h4, Nat.zero_add]
        unfold World.cell?
        simp only [hh]
        rw [List.getElem?_take, if_pos hj]
        simp
      rw [Nat.zero_add] at *
      have e1 := hc (i * 2) (by omega)
      have e2 := hc (i * 2 + 1) (by omega)
      rw [Nat.zero_add] at e1 e2
      exact ⟨e1.trans g1, e2.trans g2⟩
theorem PtsNew.empty {w w' : World} {e : TypeId} {v : Value} {ps : List (Nat × Nat)} (h : PtsNew w w' e v ps) : ∃ a cap, v = .slice a ps.length cap := by
  obtain ⟨hl, h⟩ := h
  rcases h with ⟨h, h0⟩ | ⟨g, cap, cur, hv, _⟩
  · exact ⟨none, 0, by rw [h, h0]⟩
  · exact ⟨_, _, hv⟩

theorem infoOPt : (Tryz.prog.info? 57).map (fun i => (i.zero, i.size, i.bytes)) = some (some (.agg #[.float .f64 0, .float .f64 0]), 2, 16) := by kernel_rfl
theorem infoPt : (Tryz.prog.info? 39).map (fun i => (i.zero, i.size, i.bytes)) = some (some (.agg #[.float .f64 0, .float .f64 0]), 2, 16) := by kernel_rfl

set_option maxHeartbeats 1000000 in
theorem pointsOf_c (a : Option Addr) (cap : Nat) (ps : List (Nat × Nat)) (hn : ps.length ≤ 2147483647) (w : World) (hs : PtsIn w a ps) :
    Calls Tryz.prog 26 #[.slice a ps.length cap] w (RetO w 57 ps) := by
  obtain ⟨i0, hi, hz0, hz1, hz2⟩ := info_parts infoOPt
  go_enter Tryz.func26, Tryz.ntmps26
  go_wp2_with fail
  go_loopw [3, 9] (fun v i wr => ∃ k : Nat, k ≤ ps.length ∧ i = .int .i64 k ∧ Kp w wr ∧ wr.ownsRow w.heap.size 57 2 v k (cellsOf (ps.take k))) (fun _ i _ => ps.length - (intOf i).toNat)
  case atStart => exact ⟨0, Nat.zero_le _, rfl, (by repeat (first | (with_reducible exact Kp.refl _) | (with_reducible assumption) | (with_reducible apply Kp.ext) | (with_reducible apply Kp.alloc) | (with_reducible apply Kp.drew) | (with_reducible apply Kp.drewN) | (with_reducible refine Kp.setCell ?_ (by first | (dsimp only; omega) | (simp; omega) | (simp; done) | (simp [size_ext_eq]; omega)) _))), World.ownsRow_lit w #[] 0 (Nat.le_refl _) (by decide) rfl⟩
  case round =>
    obtain ⟨k, hkn, rfl, hkp, hown⟩ := hrel
    by_cases hlt : k < ps.length
    · obtain ⟨b, off, rfl, hb, hpt⟩ : ∃ b off, a = some ⟨b, off, none⟩ ∧ b < w.heap.size ∧ PtsAt w b off ps := by
        rcases hs with hs | hs
        · subst hs; simp at hlt
        · exact hs
      obtain ⟨e0, e1⟩ := hpt.kp hb hkp k hlt
      have hc1 : cellsOf (ps.take (k + 1)) = cellsOf (ps.take k) ++ [.float .f64 (ps[k]'hlt).1, .float .f64 (ps[k]'hlt).2] := by
        rw [List.take_succ_eq_append_getElem hlt, cellsOf_snoc]
      obtain ⟨⟨px, py⟩, hq⟩ : ∃ q, ps[k]'hlt = q := ⟨_, rfl⟩
      rw [hq] at e0 e1 hc1
      clear hq
      have Hc := Lib.hid hc1
      clear hc1
      have hbk : b < wr.heap.size := Nat.lt_of_lt_of_le hb hkp.size
      have hsz := hkp.size
      go_wp2_with (at_builtin; refine wpList_append_own _ rfl (.tmp 13) (.tmp 19) 52 rfl w.heap.size 57 i0 (.agg #[.float .f64 0, .float .f64 0]) 2 16 Tryz.underlying52 hi hz0 hz1 hz2 rfl (by decide) _ k _ rfl ((hown.alloc _).alloc _) ⟨wr.heap.size + 1, 0, none⟩ 1 1 [.float .f64 px, .float .f64 py] rfl rfl ?c1 ?c2 ?c3 ?c4 ?c5 ?_)
      case c2 => exact ⟨rfl, rfl⟩
      case c3 => unfold maxLen; omega
      case c4 => omega
      case c5 => omega
      intro v' w1 hown1 hgrow1 _
      have hk1 : Kp w w1 := Below.grown ((hkp.alloc _).alloc _) hgrow1 (by simp; omega) (fun q hq => (hown.lt q hq).1)
      rw [← Hc.out] at hown1
      clear Hc
      go_wp2_with fail
      go_roundw
      case rel => exact ⟨k + 1, by omega, by go_num, hk1, hown1⟩
      case measure => simp [intOf]; omega
    · obtain rfl : k = ps.length := by omega
      rw [List.take_of_length_le (Nat.le_refl _)] at hown
      go_wp2_with fail
      go_ret
      exact RetO.mk rfl hkp hown
/-- laws.square -/
def sq5 : List (Nat × Nat) := [(0, 0), (4616189618054758400, 0), (4616189618054758400, 4616189618054758400), (0, 4616189618054758400), (0, 0)]
theorem square_c (w : World) : Calls Tryz.prog 15 #[] w (RetO w 39 sq5) := by
  go_enter Tryz.func15, Tryz.ntmps15
  go_wp2_with fail
  go_ret
  exact RetO.mk rfl (by repeat (first | (with_reducible exact Kp.refl _) | (with_reducible assumption) | (with_reducible apply Kp.ext) | (with_reducible apply Kp.alloc) | (with_reducible apply Kp.drew) | (with_reducible apply Kp.drewN) | (with_reducible refine Kp.setCell ?_ (by first | (dsimp only; omega) | (simp; omega) | (simp; done) | (simp [size_ext_eq]; omega)) _))) (World.ownsRow_lit w _ 5 (Nat.le_refl _) (by decide) rfl)

/-- spec.ArePoints -/
def arePtsB (ps : List (Nat × Nat)) (most : Int) : Bool := ps.all (fun p => pointB p.1 p.2) && decide ((ps.length : Int) ≤ most)
def Bits (ps : List (Nat × Nat)) : Prop := ∀ (i : Nat) (h : i < ps.length), (ps[i]'h).1 < 2 ^ 64 ∧ (ps[i]'h).2 < 2 ^ 64
set_option maxHeartbeats 1000000 in
theorem arePoints_c (a : Option Addr) (cap : Nat) (ps : List (Nat × Nat)) (most : Int) (hn : ps.length ≤ 2147483647) (w : World) (hs : PtsIn w a ps) (hbits : Bits ps) :
    Calls Tryz.prog 31 #[.slice a ps.length cap, .int .i64 most] w (Ret w (.bool (arePtsB ps most))) := by
  go_enter Tryz.func31, Tryz.ntmps31
  go_wp2_with fail
  go_loopw [9] (fun i wr => ∃ k : Nat, k ≤ ps.length ∧ i = .int .i64 k ∧ Kp w wr ∧ (ps.take k).all (fun p => pointB p.1 p.2) = true) (fun i _ => ps.length - (intOf i).toNat)
  case atStart => exact ⟨0, Nat.zero_le _, rfl, (by repeat (first | (with_reducible exact Kp.refl _) | (with_reducible assumption) | (with_reducible apply Kp.ext) | (with_reducible apply Kp.alloc) | (with_reducible apply Kp.drew) | (with_reducible apply Kp.drewN) | (with_reducible refine Kp.setCell ?_ (by first | (dsimp only; omega) | (simp; omega) | (simp; done) | (simp [size_ext_eq]; omega)) _))), rfl⟩
  case round =>
    obtain ⟨k, hkn, rfl, hkp, hall⟩ := hrel
    have Hall := Lib.hid hall
    clear hall
    by_cases hlt : k < ps.length
    · obtain ⟨b, off, rfl, hb, hpt⟩ : ∃ b off, a = some ⟨b, off, none⟩ ∧ b < w.heap.size ∧ PtsAt w b off ps := by
        rcases hs with hs | hs
        · subst hs; simp at hlt
        · exact hs
      obtain ⟨e0, e1⟩ := hpt.kp hb hkp k hlt
      obtain ⟨g0, g1⟩ := hbits k hlt
      have hall1 : (ps.take (k + 1)).all (fun p => pointB p.1 p.2) = pointB (ps[k]'hlt).1 (ps[k]'hlt).2 := by
        rw [List.take_succ_eq_append_getElem hlt, List.all_append, Hall.out]; simp
      have hno : pointB (ps[k]'hlt).1 (ps[k]'hlt).2 = false → arePtsB ps most = false := by
        intro h
        unfold arePtsB
        rw [List.all_eq_false.2 ⟨ps[k]'hlt, List.getElem_mem hlt, by rw [h]; decide⟩]; rfl
      obtain ⟨⟨px, py⟩, hq⟩ : ∃ q, ps[k]'hlt = q := ⟨_, rfl⟩
      rw [hq] at e0 e1 g0 g1 hall1 hno
      clear hq
      have hbk : b < wr.heap.size := Nat.lt_of_lt_of_le hb hkp.size
      cases c : pointB px py
      · rw [hno c]
        clear hall1 hno
        go_wp2_with (go_at_call 46; (first | (with_reducible refine (Ret.at_ext (point_c _ _ (by assumption) (by assumption) _)).mono ?_) | refine (point_c _ _ (by assumption) (by assumption) _).mono ?_); rintro e w' ⟨rfl, u, rfl⟩)
        go_ret
        exact Ret.mk rfl (by repeat (first | (with_reducible exact Kp.refl _) | (with_reducible assumption) | (with_reducible apply Kp.ext) | (with_reducible apply Kp.alloc) | (with_reducible apply Kp.drew) | (with_reducible apply Kp.drewN) | (with_reducible refine Kp.setCell ?_ (by first | (dsimp only; omega) | (simp; omega) | (simp; done) | (simp [size_ext_eq]; omega)) _)))
      · rw [c] at hall1
        have H1 := Lib.hid hall1
        clear hall1 hno
        go_wp2_with (go_at_call 46; (first | (with_reducible refine (Ret.at_ext (point_c _ _ (by assumption) (by assumption) _)).mono ?_) | refine (point_c _ _ (by assumption) (by assumption) _).mono ?_); rintro e w' ⟨rfl, u, rfl⟩)
        go_roundw
        case rel => exact ⟨k + 1, by omega, by go_num, (by repeat (first | (with_reducible exact Kp.refl _) | (with_reducible assumption) | (with_reducible apply Kp.ext) | (with_reducible apply Kp.alloc) | (with_reducible apply Kp.drew) | (with_reducible apply Kp.drewN) | (with_reducible refine Kp.setCell ?_ (by first | (dsimp only; omega) | (simp; omega) | (simp; done) | (simp [size_ext_eq]; omega)) _))), H1.out⟩
        case measure => simp [intOf]; omega
    · obtain rfl : k = ps.length := by omega
      have hr : arePtsB ps most = decide ((ps.length : Int) ≤ most) := by
        have := Hall.out
        rw [List.take_of_length_le (Nat.le_refl _)] at this
        unfold arePtsB; rw [this]; rfl
      have Hr := Lib.hid hr
      clear hr
      go_wp2_with fail
      go_ret
      exact Ret.mk (by rw [Hr.out]; rfl) (by repeat (first | (with_reducible exact Kp.refl _) | (with_reducible assumption) | (with_reducible apply Kp.ext) | (with_reducible apply Kp.alloc) | (with_reducible apply Kp.drew) | (with_reducible apply Kp.drewN) | (with_reducible refine Kp.setCell ?_ (by first | (dsimp only; omega) | (simp; omega) | (simp; done) | (simp [size_ext_eq]; omega)) _)))
end Go.Proofs.YtohidpmkoehmcaaGreatDoor
