/-
  impl.listOf and impl.polygonShape.
-/
import Derived.Test.YtobdohhabgnjiaaGreatDoorSo
set_option linter.all false
namespace Go.Proofs.YtobdohhabgnjiaaGreatDoor
open PubFl Go.RowKit

attribute [local go_sem] cell_ext frozen_ext ext_setCell cell_store size_ext_eq lt_p0 lt_p1 lt_p2 lt_p3 lt_p4 lt_p5 lt_p6 lt_p7 lt_p8 lt_p9 lt_p10 lt_p11 lt_p12 lt_p13 lt_p14 lt_p15 lt_p16 lt_p17 lt_p18 lt_p19 lt_p20 lt_p21 lt_p22 lt_p23 lt_p24 lt_p25 lt_p26 lt_p27 lt_p28 lt_p29 lt_p30 lt_p31 lt_p32 lt_q1 lt_q2 lt_q3 lt_q4 lt_q5 lt_q6 lt_q7 lt_q8 lt_q9 lt_q10 lt_q11 lt_q12 lt_q13 lt_q14 lt_q15 lt_q16 lt_q17 lt_q18 lt_q19 lt_q20 lt_q21 lt_q22 lt_q23 lt_q24 lt_q25 lt_q26 lt_q27 lt_q28 lt_q29 lt_q30 lt_q31 lt_q32 run_fop run_store_float
attribute [local go_sem high] cmp_eql cmp_neq cmp_lss cmp_leq cmp_gtr cmp_geq

set_option maxHeartbeats 1000000 in
theorem listB_c (a : Option Addr) (cap : Nat) (ps : List (Nat × Nat)) (hn : ps.length ≤ 2147483647) (w : World) (hs : PtsIn w a ps) :
    Calls Tryz.prog 42 #[.slice a ps.length cap] w (RetB w fun lo hi w v => PtsB lo hi w v ps) := by
  obtain ⟨i0, hi, hz0, hz1, hz2⟩ := info_parts infoPt
  go_enter Tryz.func42, Tryz.ntmps42
  go_wp2_with fail
  go_loopw [3, 9] (fun v i wr => ∃ k : Nat, k ≤ ps.length ∧ i = .int .i64 k ∧ Kp w wr ∧ wr.ownsRow w.heap.size 65 2 v k (cellsOf (ps.take k)) ∧ ∃ g, v.ownBlock = some g) (fun _ i _ => ps.length - (intOf i).toNat)
  case atStart => exact ⟨0, Nat.zero_le _, rfl, (by repeat (first | (with_reducible exact Kp.refl _) | (with_reducible assumption) | (with_reducible apply Kp.ext) | (with_reducible apply Kp.alloc) | (with_reducible apply Kp.drew) | (with_reducible apply Kp.drewN) | (with_reducible refine Kp.setCell ?_ (by first | (dsimp only; omega) | (simp; omega) | (simp; done) | (simp [size_ext_eq]; omega)) _))), World.ownsRow_lit w #[] 0 (Nat.le_refl _) (by decide) rfl, _, rfl⟩
  case round =>
    obtain ⟨k, hkn, rfl, hkp, hown, g0, hg0⟩ := hrel
    by_cases hlt : k < ps.length
    · obtain ⟨b, off, rfl, hb, hpt⟩ : ∃ b off, a = some ⟨b, off, none⟩ ∧ b < w.heap.size ∧ PtsAt w b off ps := by
        rcases hs with hs | hs
        · subst hs; simp at hlt
        · exact hs
      obtain ⟨e0, e1⟩ := hpt.kp hb hkp k hlt
      have hc1 : cellsOf (ps.take (k + 1)) = cellsOf (ps.take k) ++ [.float .f64 (ps[k]'hlt).1, .float .f64 (ps[k]'hlt).2] := by
        rw [List.take_succ_eq_append_getElem hlt, cellsOf_snoc]
      obtain ⟨⟨px, py⟩, hq⟩ : ∃ q, ps[k]'hlt = q := ⟨_, rfl⟩
      rw [hq] at e0 e1 hc1
      clear hq
      have Hc := Lib.hid hc1
      have Hg0 := Lib.hid hg0
      clear hc1 hg0
      have hbk : b < wr.heap.size := Nat.lt_of_lt_of_le hb hkp.size
      have hsz := hkp.size
      go_wp2_with (at_builtin; refine wpList_append_own2 _ rfl (.tmp 13) (.tmp 19) 60 rfl w.heap.size 65 i0 (.agg #[.float .f64 0, .float .f64 0]) 2 16 Tryz.underlying60 hi hz0 hz1 hz2 rfl (by decide) _ k _ rfl ((hown.alloc _).alloc _) ⟨wr.heap.size + 1, 0, none⟩ 1 1 [.float .f64 px, .float .f64 py] rfl rfl ?c1 ?c2 ?c3 ?c4 ?c5 ?_)
      case c2 => exact ⟨rfl, rfl⟩
      case c3 => unfold maxLen; omega
      case c4 => omega
      case c5 => omega
      intro v' w1 hown1 hgrow1 hblk
      have hk1 : Kp w w1 := Below.grown ((hkp.alloc _).alloc _) hgrow1 (by simp; omega) (fun q hq => (hown.lt q hq).1)
      rw [← Hc.out] at hown1
      have hnn : ∃ g, v'.ownBlock = some g := by rcases hblk with e | e <;> exact ⟨_, e.trans (by first | exact Hg0.out | rfl)⟩
      clear Hc hblk
      go_wp2_with fail
      go_roundw
      case rel => exact ⟨k + 1, by omega, by go_num, hk1, hown1, hnn⟩
      case measure => simp [intOf]; omega
    · obtain rfl : k = ps.length := by omega
      rw [List.take_of_length_le (Nat.le_refl _)] at hown
      have Hown := Lib.hid hown
      have Hg0 := Lib.hid hg0
      clear hown hg0
      go_wp2_with fail
      go_ret
      refine ⟨_, _, rfl, ext_of hkp, ?_⟩
      have hown := Hown.out
      have hown' := hown
      rcases hown.2 with ⟨h, _⟩ | ⟨g, cap, cur, hv, hb, hg, h1, h2, h3, h4⟩
      · have := Hg0.out; rw [h] at this; cases this
      · have hsz := (own_size hown' (g := g) (by rw [hv]; rfl)).2
        refine ⟨g, cap, hv, hb, hsz, hsz, h1, fun j => row_frozen hg, fun i hi => ?_⟩
        subst hv
        obtain ⟨g1, g2⟩ := cellsOf_get ps i hi
        rw [Nat.zero_add]
        exact ⟨(hown'.cellAt _ (by omega)).trans g1, (hown'.cellAt _ (by omega)).trans g2⟩

theorem frozen_newS (w : World) (c : Array Value) (t : TypeId) (i : Nat) : (w.alloc (.cells c t)).frozen? ⟨w.heap.size, i, none⟩ = false := by
  unfold World.frozen? World.alloc
  simp
/-- a new shape of the call's, in block g -/
structure BoxS (w : World) (g : Nat) (a b c : Value) : Prop where
  lt : g < w.heap.size
  c0 : w.cell? ⟨g, 0, none⟩ = some a
  c1 : w.cell? ⟨g, 1, none⟩ = some b
  c2 : w.cell? ⟨g, 2, none⟩ = some c
  z : ∀ i, w.frozen? ⟨g, i, none⟩ = false
theorem BoxS.new {w : World} {g : Nat} (h : g = w.heap.size) (a b c : Value) (t : TypeId) : BoxS (w.alloc (.cells #[a, b, c] t)) g a b c := by
  subst h
  exact ⟨by simp, by simp, by simp, by simp, fun i => frozen_newS _ _ _ _⟩
theorem BoxS.kp {w w' : World} {g : Nat} {a b c : Value} (h : BoxS w g a b c) (k : Kp w w') : BoxS w' g a b c :=
  ⟨Nat.lt_of_lt_of_le h.lt k.size, Kp.cell k h.c0 h.lt, Kp.cell k h.c1 h.lt, Kp.cell k h.c2 h.lt, fun i => (Below.frozen (p := ⟨g, i, none⟩) k h.lt).trans (h.z i)⟩
theorem BoxS.grown {w w' : World} {g : Nat} {a b c : Value} {row : Option Nat} (h : BoxS w g a b c) (k : w.grownBy w' row) (hn : row ≠ some g) : BoxS w' g a b c :=
  ⟨Nat.lt_of_lt_of_le h.lt k.size, (grown_cell k h.lt hn).trans h.c0, (grown_cell k h.lt hn).trans h.c1, (grown_cell k h.lt hn).trans h.c2, fun i => (grown_frozen k h.lt hn).trans (h.z i)⟩
theorem BoxS.oth {w : World} {g : Nat} {a b c : Value} (h : BoxS w g a b c) {k : Nat} (hk : k ≠ g) (i : Nat) (v : Value) : BoxS (w.setCell ⟨k, i, none⟩ v) g a b c := by
  have n0 : ∀ j, (⟨k, i, none⟩ : Addr) ≠ ⟨g, j, none⟩ := fun j e => hk (by cases e; rfl)
  refine ⟨by simpa using h.lt, ?_, ?_, ?_, fun i => by simpa using h.z i⟩
  · rw [World.cell?_setCell_other _ _ _ _ (n0 0)]; exact h.c0
  · rw [World.cell?_setCell_other _ _ _ _ (n0 1)]; exact h.c1
  · rw [World.cell?_setCell_other _ _ _ _ (n0 2)]; exact h.c2
theorem BoxS.set0 {w : World} {g : Nat} {a b c : Value} (h : BoxS w g a b c) (v : Value) : BoxS (w.setCell ⟨g, 0, none⟩ v) g v b c :=
  ⟨by simpa using h.lt, World.cell?_setCell_same _ _ _ h.c0, by rw [World.cell?_setCell_other _ _ _ _ (by simp)]; exact h.c1, by rw [World.cell?_setCell_other _ _ _ _ (by simp)]; exact h.c2, fun i => by simpa using h.z i⟩
theorem BoxS.set1 {w : World} {g : Nat} {a b c : Value} (h : BoxS w g a b c) (v : Value) : BoxS (w.setCell ⟨g, 1, none⟩ v) g a v c :=
  ⟨by simpa using h.lt, by rw [World.cell?_setCell_other _ _ _ _ (by simp)]; exact h.c0, World.cell?_setCell_same _ _ _ h.c1, by rw [World.cell?_setCell_other _ _ _ _ (by simp)]; exact h.c2, fun i => by simpa using h.z i⟩
theorem BoxS.set2 {w : World} {g : Nat} {a b c : Value} (h : BoxS w g a b c) (v : Value) : BoxS (w.setCell ⟨g, 2, none⟩ v) g a b v :=
  ⟨by simpa using h.lt, by rw [World.cell?_setCell_other _ _ _ _ (by simp)]; exact h.c0, by rw [World.cell?_setCell_other _ _ _ _ (by simp)]; exact h.c1, World.cell?_setCell_same _ _ _ h.c2, fun i => by simpa using h.z i⟩
end Go.Proofs.YtobdohhabgnjiaaGreatDoor
