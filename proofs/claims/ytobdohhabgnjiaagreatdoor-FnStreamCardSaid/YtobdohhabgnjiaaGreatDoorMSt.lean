/-
  A list of shapes that came in, opened, as the frame of a law hands it on.
  laws.areShapes: each is a shape, and they are at most eight.
  One Encode of many into a buffer that grows.
  impl.EncodeAll: the forms of the shapes, one behind the other.
-/
import Derived.Test.YtobdohhabgnjiaaGreatDoorOpenSh
import Derived.Test.YtobdohhabgnjiaaGreatDoorShape
import Derived.Test.YtobdohhabgnjiaaGreatDoorMGrB
set_option linter.all false
namespace Go.Proofs.YtobdohhabgnjiaaGreatDoor
open PubFl Go.ChangeShapes Go.WideShapes Go.ChangeAt Go.RowKit Go.Joins Go.Deep

/-- a list of shapes in memory, each so many levels deep -/
def ShsIn (d : Nat) (w : World) (v : Value) (ss : List Sh) : Prop := ∃ a cap, v = .slice a ss.length cap ∧ ss.length ≤ big ∧
  (ss = [] ∨ ∃ b off, a = some ⟨b, off, none⟩ ∧ b < w.heap.size ∧ ∀ (i : Nat) (h : i < ss.length), ∃ lv' pv', w.cell? ⟨b, off + i * 3, none⟩ = some (.int .i64 (ss[i]'h).kind) ∧
    w.cell? ⟨b, off + i * 3 + 1, none⟩ = some lv' ∧ w.cell? ⟨b, off + i * 3 + 2, none⟩ = some pv' ∧ ShIn d w lv' pv' (ss[i]'h))
theorem ShsIn.kp {w w' : World} (k : Kp w w') {d : Nat} {v : Value} {ss : List Sh} (h : ShsIn d w v ss) : ShsIn d w' v ss := by
  obtain ⟨a, cap, hv, hn, h⟩ := h
  refine ⟨a, cap, hv, hn, ?_⟩
  rcases h with h | ⟨b, off, rfl, hb, h⟩
  · exact .inl h
  · refine .inr ⟨b, off, rfl, Nat.lt_of_lt_of_le hb k.size, fun i hi => ?_⟩
    obtain ⟨lv', pv', h0, h1, h2, h3⟩ := h i hi
    exact ⟨lv', pv', Kp.cell k h0 hb, Kp.cell k h1 hb, Kp.cell k h2 hb, ShIn.kp k h3⟩
section
variable {H : Type} {enc : TypeId × Value → H} {P : Program} {w : World}
theorem open_shs {S : TypeId} {g0 g1 g2 : Field} {t e : TypeId} {f0 f1 : Field} (T : ShTy P S g0 g1 g2 t e f0 f1) (d : Nat) {fuel : Nat} {v : Value} {x : DataW H × List MemPlace}
    (h : DataW.trod enc P w 0 (fun _ => true) true fuel g2.type [v] = some x) (z : Lite P g2.type x.1) : ∃ ss, ShsIn d w v ss := by
  rcases open_slice T.uP h with ⟨hcs, hx⟩ | ⟨a, len, cap, m, n2, D, Pl, hcs, _, hl, hm, hmm, hx, hcell⟩
  · simp at hcs
    subst hcs
    exact ⟨[], none, 0, rfl, Nat.zero_le _, .inl rfl⟩
  · simp at hcs
    subst hcs
    simp only [if_true] at hmm
    subst hmm
    rw [hx] at z
    obtain ⟨hb, hd⟩ := Lite.slice (by exact z) T.uP
    simp only [List.length_map, List.length_range, T.bS, reachBytes] at hb
    have hall : ∀ i, i < len → ∃ q : Value × Value × Sh, w.cell? (a.add (i * 3)) = some (.int .i64 q.2.2.kind) ∧ w.cell? (a.add (i * 3 + 1)) = some q.1 ∧ w.cell? (a.add (i * 3 + 2)) = some q.2.1 ∧ ShIn d w q.1 q.2.1 q.2.2 := by
      intro i hi
      obtain ⟨cs', g0', g1'⟩ := hcell i (by omega)
      rw [T.cS] at g0'
      obtain ⟨_, g2', g3⟩ := World.cells?_some g0'
      obtain ⟨lv, pv, s, rfl, hs⟩ := open_sh T d g1' (hd _ (List.mem_map.2 ⟨i, List.mem_range.2 hi, rfl⟩))
      have c0 := g3 0 (by omega)
      have c1 := g3 1 (by omega)
      have c2 := g3 2 (by omega)
      rw [add_add] at c0 c1 c2
      exact ⟨(lv, pv, s), by simpa using c0, by simpa using c1, by simpa using c2, hs⟩
    have : Inhabited Sh := ⟨.mk 0 [] []⟩
    obtain ⟨q, hq⟩ := choose_lt hall
    have hlen : ((List.range len).map fun i => (q i).2.2).length = len := by simp
    refine ⟨(List.range len).map fun i => (q i).2.2, some a, _, by rw [hlen], by rw [hlen]; unfold big; omega, ?_⟩
    by_cases h0 : len = 0
    · exact .inl (by simp [h0])
    · right
      obtain ⟨b, off, spot⟩ := a
      have hspot : spot = none := by simpa [Addr.add] using World.cell?_spot (hq 0 (by omega)).1
      subst hspot
      have hq0 := (hq 0 (by omega)).1
      rw [add_lit] at hq0
      refine ⟨b, off, rfl, lt_of_cell hq0, fun i hi => ?_⟩
      rw [hlen] at hi
      obtain ⟨k0, k1, k2, k3⟩ := hq i hi
      rw [add_lit] at k0 k1 k2
      refine ⟨_, _, ?_, k1, k2, ?_⟩
      · simpa using k0
      · simpa using k3
end
section
variable {H : Type} {enc : TypeId × Value → H} {w : World}
set_option maxRecDepth 100000 in
theorem open_shapes {r : Reach} {b0 : Nat} {v : Value} {d : DataW H} {p : List MemPlace} (hv : Value.okWide Tryz.prog w r b0 22 v)
    (h : DataW.Trod enc Tryz.prog w 0 (fun _ => true) true 22 v d p) (hz : Lite Tryz.prog 22 d) :
    ∃ (ss : List Sh), ShsIn 4 w v ss := by
  obtain ⟨a1, len, cap, rfl⟩ := okWide_slice Tryz.underlying22 hv
  obtain ⟨fuel, hf⟩ := h
  have this := open_shs (enc := enc) (P := Tryz.prog) (w := w) (v := .slice a1 len cap) (x := (d, p)) (fuel := fuel) ⟨Tryz.underlying30, by kernel_rfl, by kernel_rfl, by kernel_rfl, by kernel_rfl, by kernel_rfl, by kernel_rfl, by kernel_rfl, by kernel_rfl, by kernel_rfl,
    Tryz.underlying28, Tryz.underlying22, by kernel_rfl, by kernel_rfl, Tryz.underlying60, Tryz.underlying65, by kernel_rfl, by kernel_rfl, by kernel_rfl, by kernel_rfl, by kernel_rfl, by kernel_rfl, by kernel_rfl, by kernel_rfl⟩ 4
  exact this hf hz
end
end Go.Proofs.YtobdohhabgnjiaaGreatDoor

set_option linter.all false
namespace Go.Proofs.YtobdohhabgnjiaaGreatDoor
open PubFl Go.RowKit

attribute [local go_sem] cell_ext frozen_ext ext_setCell cell_store size_ext_eq lt_p0 lt_p1 lt_p2 lt_p3 lt_p4 lt_p5 lt_p6 lt_p7 lt_p8 lt_p9 lt_p10 lt_p11 lt_p12 lt_p13 lt_p14 lt_p15 lt_p16 lt_p17 lt_p18 lt_p19 lt_p20 lt_p21 lt_p22 lt_p23 lt_p24 lt_p25 lt_p26 lt_p27 lt_p28 lt_p29 lt_p30 lt_p31 lt_p32 lt_q1 lt_q2 lt_q3 lt_q4 lt_q5 lt_q6 lt_q7 lt_q8 lt_q9 lt_q10 lt_q11 lt_q12 lt_q13 lt_q14 lt_q15 lt_q16 lt_q17 lt_q18 lt_q19 lt_q20 lt_q21 lt_q22 lt_q23 lt_q24 lt_q25 lt_q26 lt_q27 lt_q28 lt_q29 lt_q30 lt_q31 lt_q32 run_fop run_store_float
attribute [local go_sem high] cmp_eql cmp_neq cmp_lss cmp_leq cmp_gtr cmp_geq

theorem ShsIn.at {d : Nat} {w : World} {v : Value} {ss : List Sh} (h : ShsIn d w v ss) : ∃ a cap, v = .slice a ss.length cap ∧ ss.length ≤ big ∧ ∀ (i : Nat) (hi : i < ss.length), ∃ b off n3 a3 c3 n4 a4 c4, a = some ⟨b, off, none⟩ ∧ b < w.heap.size ∧ w.cell? ⟨b, off + i * 3, none⟩ = some (.int .i64 (ss[i]'hi).kind) ∧
    w.cell? ⟨b, off + i * 3 + 1, none⟩ = some (.slice a3 n3 c3) ∧ w.cell? ⟨b, off + i * 3 + 2, none⟩ = some (.slice a4 n4 c4) ∧ ShIn d w (.slice a3 n3 c3) (.slice a4 n4 c4) (ss[i]'hi) := by
  obtain ⟨a, cap, hv, hn, h⟩ := h
  refine ⟨a, cap, hv, hn, fun i hi => ?_⟩
  rcases h with h | ⟨b, off, rfl, hb, h⟩
  · subst h; simp at hi
  · obtain ⟨lv', pv', g0, g1, g2, g3⟩ := h i hi
    obtain ⟨⟨a3, n3, c3, rfl⟩, a4, n4, c4, rfl⟩ := g3.form
    exact ⟨b, off, n3, a3, c3, n4, a4, c4, rfl, hb, g0, g1, g2, g3⟩
def areB (ss : List Sh) : Bool := ss.all isShB && decide (ss.length ≤ 8)
set_option maxRecDepth 20000 in
set_option maxHeartbeats 2000000 in
theorem areShapes_c (ss : List Sh) (v : Value) (w : World) (h : ShsIn 4 w v ss) : Calls Tryz.prog 4 #[v] w (Ret w (.bool (areB ss))) := by
  obtain ⟨a, cap, rfl, hbg, hget⟩ := h.at
  have hno : ∀ k (hk : k < ss.length), isShB (ss[k]'hk) = false → areB ss = false := fun k hk e => by
    unfold areB
    have : ss.all isShB = false := by rw [List.all_eq_false]; exact ⟨_, List.getElem_mem hk, by simp [e]⟩
    rw [this]; rfl
  have hyes : (∀ k (hk : k < ss.length), isShB (ss[k]'hk) = true) → areB ss = decide (ss.length ≤ 8) := fun e => by
    unfold areB
    have : ss.all isShB = true := by
      rw [List.all_eq_true]; intro x hx
      obtain ⟨k, hk, rfl⟩ := List.mem_iff_getElem.1 hx
      exact e k hk
    rw [this, Bool.true_and]
  generalize areB ss = r at *
  have Hget := Lib.hid hget
  have Hno := Lib.hid hno
  have Hyes := Lib.hid hyes
  unfold big at hbg
  clear hget hno hyes h
  obtain ⟨n, hn⟩ : ∃ n, ss.length = n := ⟨_, rfl⟩
  have Hn := Lib.hid hn
  rw [hn] at hbg ⊢
  clear hn
  go_enter Tryz.func4, Tryz.ntmps4
  go_wp2_with fail
  go_loopw [7] (fun s7 wr => ∃ k : Nat, k ≤ n ∧ s7 = .int .i64 k ∧ Kp w wr ∧ ∀ i (hi : i < ss.length), i < k → isShB (ss[i]'hi) = true) (fun s7 _ => n - (intOf s7).toNat)
  case atStart => exact ⟨0, by omega, rfl, (by repeat (first | (with_reducible exact Kp.refl _) | (with_reducible assumption) | (with_reducible apply Kp.ext) | (with_reducible apply Kp.alloc) | (with_reducible apply Kp.drew) | (with_reducible apply Kp.drewN) | (with_reducible refine Kp.setCell ?_ (by first | (dsimp only; omega) | (simp; omega) | (simp; done) | (simp [size_ext_eq]; omega)) _))), fun i hi h => by omega⟩
  case round =>
    obtain ⟨k, hk, rfl, hkp, hall⟩ := hrel
    have Hall := Lib.hid hall
    clear hall
    by_cases hlt : k < n
    · have hlt2 : k < ss.length := by rw [Hn.out]; exact hlt
      obtain ⟨b, off, n3, a3, c3, n4, a4, c4, rfl, hb, g0, g1, g2, g3⟩ := Hget.out k hlt2
      have g0 := Kp.cell hkp g0 hb
      have g1 := Kp.cell hkp g1 hb
      have g2 := Kp.cell hkp g2 hb
      have hbx := Nat.lt_of_lt_of_le hb hkp.size
      have hI := fun w' (hk' : Kp wr w') => isShape_c _ _ _ w' ((g3.kp hkp).kp hk')
      obtain ⟨q, hq⟩ : ∃ q, ss[k]'hlt2 = q := ⟨_, rfl⟩
      simp only [hq] at g0 hI
      have Hq := Lib.hid hq
      clear hq g3
      cases cq : isShB q
      · have hr : r = false := Hno.out k hlt2 (by rw [Hq.out]; exact cq)
        rw [cq] at hI
        have HI := Lib.hid hI
        clear hI cq
        subst hr
        go_wp2_with (go_at_call 11; (first | (with_reducible refine (Ret.at_ext (HI.out _ (by repeat (first | (with_reducible exact Kp.refl _) | (with_reducible assumption) | (with_reducible apply Kp.ext) | (with_reducible apply Kp.alloc) | (with_reducible apply Kp.drew) | (with_reducible apply Kp.drewN) | (with_reducible refine Kp.setCell ?_ (by first | (dsimp only; omega) | (simp; omega) | (simp; done) | (simp [size_ext_eq]; omega)) _))))).mono ?_) | (with_reducible refine (HI.out _ (by repeat (first | (with_reducible exact Kp.refl _) | (with_reducible assumption) | (with_reducible apply Kp.ext) | (with_reducible apply Kp.alloc) | (with_reducible apply Kp.drew) | (with_reducible apply Kp.drewN) | (with_reducible refine Kp.setCell ?_ (by first | (dsimp only; omega) | (simp; omega) | (simp; done) | (simp [size_ext_eq]; omega)) _)))).mono ?_)); rintro e w' ⟨rfl, u, rfl⟩)
        go_ret
        exact Ret.mk rfl (by repeat (first | (with_reducible exact Kp.refl _) | (with_reducible assumption) | (with_reducible apply Kp.ext) | (with_reducible apply Kp.alloc) | (with_reducible apply Kp.drew) | (with_reducible apply Kp.drewN) | (with_reducible refine Kp.setCell ?_ (by first | (dsimp only; omega) | (simp; omega) | (simp; done) | (simp [size_ext_eq]; omega)) _)))
      · have hnx : ∀ i (hi : i < ss.length), i < k + 1 → isShB (ss[i]'hi) = true := fun i hi h => by
          by_cases e : i = k
          · subst e; rw [Hq.out]; exact cq
          · exact Hall.out i hi (by omega)
        have Hnx := Lib.hid hnx
        rw [cq] at hI
        have HI := Lib.hid hI
        clear hI cq hnx
        go_wp2_with (go_at_call 11; (first | (with_reducible refine (Ret.at_ext (HI.out _ (by repeat (first | (with_reducible exact Kp.refl _) | (with_reducible assumption) | (with_reducible apply Kp.ext) | (with_reducible apply Kp.alloc) | (with_reducible apply Kp.drew) | (with_reducible apply Kp.drewN) | (with_reducible refine Kp.setCell ?_ (by first | (dsimp only; omega) | (simp; omega) | (simp; done) | (simp [size_ext_eq]; omega)) _))))).mono ?_) | (with_reducible refine (HI.out _ (by repeat (first | (with_reducible exact Kp.refl _) | (with_reducible assumption) | (with_reducible apply Kp.ext) | (with_reducible apply Kp.alloc) | (with_reducible apply Kp.drew) | (with_reducible apply Kp.drewN) | (with_reducible refine Kp.setCell ?_ (by first | (dsimp only; omega) | (simp; omega) | (simp; done) | (simp [size_ext_eq]; omega)) _)))).mono ?_)); rintro e w' ⟨rfl, u, rfl⟩)
        go_roundw
        case rel => exact ⟨k + 1, by omega, by go_num, (by repeat (first | (with_reducible exact Kp.refl _) | (with_reducible assumption) | (with_reducible apply Kp.ext) | (with_reducible apply Kp.alloc) | (with_reducible apply Kp.drew) | (with_reducible apply Kp.drewN) | (with_reducible refine Kp.setCell ?_ (by first | (dsimp only; omega) | (simp; omega) | (simp; done) | (simp [size_ext_eq]; omega)) _))), Hnx.out⟩
        case measure => simp [intOf]; omega
    · obtain rfl : k = n := by omega
      have hr := Hyes.out fun i hi => Hall.out i hi (by rw [← Hn.out]; exact hi)
      rw [Hn.out, show decide (k ≤ 8) = decide ((k : Int) ≤ 8) from decide_eq_decide.2 (by omega)] at hr
      subst hr
      go_wp2_with fail
      go_ret
      exact Ret.mk rfl (by repeat (first | (with_reducible exact Kp.refl _) | (with_reducible assumption) | (with_reducible apply Kp.ext) | (with_reducible apply Kp.alloc) | (with_reducible apply Kp.drew) | (with_reducible apply Kp.drewN) | (with_reducible refine Kp.setCell ?_ (by first | (dsimp only; omega) | (simp; omega) | (simp; done) | (simp [size_ext_eq]; omega)) _)))
end Go.Proofs.YtobdohhabgnjiaaGreatDoor

set_option linter.all false
namespace Go.Proofs.YtobdohhabgnjiaaGreatDoor
open PubFl Go.RowKit

attribute [local go_sem] cell_ext frozen_ext ext_setCell cell_store size_ext_eq lt_p0 lt_p1 lt_p2 lt_p3 lt_p4 lt_p5 lt_p6 lt_p7 lt_p8 lt_p9 lt_p10 lt_p11 lt_p12 lt_p13 lt_p14 lt_p15 lt_p16 lt_p17 lt_p18 lt_p19 lt_p20 lt_p21 lt_p22 lt_p23 lt_p24 lt_p25 lt_p26 lt_p27 lt_p28 lt_p29 lt_p30 lt_p31 lt_p32 lt_q1 lt_q2 lt_q3 lt_q4 lt_q5 lt_q6 lt_q7 lt_q8 lt_q9 lt_q10 lt_q11 lt_q12 lt_q13 lt_q14 lt_q15 lt_q16 lt_q17 lt_q18 lt_q19 lt_q20 lt_q21 lt_q22 lt_q23 lt_q24 lt_q25 lt_q26 lt_q27 lt_q28 lt_q29 lt_q30 lt_q31 lt_q32 run_fop run_store_float
attribute [local go_sem high] cmp_eql cmp_neq cmp_lss cmp_leq cmp_gtr cmp_geq

theorem BufW.re {w w1 : World} {gB : Nat} {gD : Nat × Nat} {cap : Nat} {bs : List Nat} (h : BufW w gB gD cap bs) (k : Kp w w1) {B : Nat} (hB : B ≤ gB) (h1 : B ≤ gD.1) (h2 : B ≤ gD.2) : ∃ D0, B ≤ D0 ∧ D0 < w.heap.size ∧ BufW w1 gB (D0, w1.heap.size) cap bs := by
  have kk := Kx.of_kp (S := []) k
  have hk := h.kx kk (by simp) (by simp)
  rcases h.st with ⟨e, h0⟩ | ⟨g, c, cur, h0, hg, hne, hr, hs, hrest⟩
  · exact ⟨gB, hB, h.lt, .inl ⟨e, (kk.cell h.lt (by simp)).trans h0⟩, hk.b1, hk.b2, hk.bz, hk.lt, hk.room, hk.small, Nat.le_refl _⟩
  · have hlt := lt_heap' hr
    exact ⟨g, by omega, hlt, .inr ⟨g, c, cur, (kk.cell h.lt (by simp)).trans h0, .inl rfl, hne, (kk.block g hlt (by simp)).trans hr, hs, hrest⟩, hk.b1, hk.b2, hk.bz, hk.lt, hk.room, hk.small, Nat.le_refl _⟩
theorem EncW.re {w w1 : World} {gE gb gB : Nat} {gD : Nat × Nat} {cap : Nat} {big : Bool} {bs : List Nat} (h : EncW w gE gb gB gD cap big bs) (k : Kp w w1) {B : Nat} (hB : B ≤ gB) (h1 : B ≤ gD.1) (h2 : B ≤ gD.2) : ∃ D0, B ≤ D0 ∧ D0 < w.heap.size ∧ EncW w1 gE gb gB (D0, w1.heap.size) cap big bs := by
  obtain ⟨D0, p1, p2, hb⟩ := h.buf.re k hB h1 h2
  obtain ⟨e0, e1, e2, ez, ltE, cells, bz, ltb, _, n1, n2, n3, n4, n5⟩ := h.kp k
  exact ⟨D0, p1, p2, e0, e1, e2, ez, ltE, cells, bz, ltb, hb, n1, n2, n3, n4, n5⟩
theorem EncN.re {w w1 : World} {gE gB : Nat} {gD : Nat × Nat} {cap : Nat} {big : Bool} {bs : List Nat} (h : EncN w gE gB gD cap big bs) (k : Kp w w1) {B : Nat} (hB : B ≤ gB) (h1 : B ≤ gD.1) (h2 : B ≤ gD.2) : ∃ D0, B ≤ D0 ∧ D0 < w.heap.size ∧ EncN w1 gE gB (D0, w1.heap.size) cap big bs := by
  obtain ⟨D0, p1, p2, hb⟩ := h.buf.re k hB h1 h2
  obtain ⟨e0, e1, e2, ez, ltE, _, n2, n3⟩ := h.kp k
  exact ⟨D0, p1, p2, e0, e1, e2, ez, ltE, hb, n2, n3⟩
/-- an encoder of a stream, between two shapes -/
structure EncS (w0 w : World) (gW gE gB cap : Nat) (big : Bool) (bs : List Nat) : Prop where
  kp : Kp w0 w
  cw : w.cell? ⟨gW, 0, none⟩ = some (.pointer (some ⟨gE, 0, none⟩))
  ltW : gW < w.heap.size
  row : rowOf w gB ≠ some gW
  hW : gW ≠ gE ∧ gW ≠ gB
  hE : w0.heap.size ≤ gE
  hB : w0.heap.size ≤ gB
  st : ∃ gD : Nat × Nat, w0.heap.size ≤ gD.1 ∧ w0.heap.size ≤ gD.2 ∧ ((bs = [] ∧ EncN w gE gB gD cap big bs) ∨ ∃ gb, w0.heap.size ≤ gb ∧ gb ≠ gW ∧ EncW w gE gb gB gD cap big bs)
theorem wkbEncW_c (gW gE gb gB : Nat) (gD : Nat × Nat) (cap : Nat) (big : Bool) (bs qs : List Nat) (v : Value) (w : World) (hW : gW < w.heap.size) (hp : w.cell? ⟨gW, 0, none⟩ = some (.pointer (some ⟨gE, 0, none⟩))) (h : Calls Tryz.prog 37 #[.pointer (some ⟨gE, 0, none⟩), v, .int .i64 0] w (RetE gE gb gB gD cap big bs qs w)) :
    Calls Tryz.prog 19 #[.pointer (some ⟨gW, 0, none⟩), v] w (RetE gE gb gB gD cap big bs qs w) := by
  have H := Lib.hid h
  clear h
  go_enter Tryz.func19, Tryz.ntmps19
  go_wp2_with (go_at_call 37; (with_reducible refine (H.out).mono ?_); rintro e w1 ⟨rfl, hr⟩)
  go_ret
  exact ⟨rfl, hr⟩
/-- what one Encode of a stream leaves -/
def RetStr (w0 : World) (gW gE gB cap : Nat) (big : Bool) (bs : List Nat) (e : Ending) (w' : World) : Prop := e = .returned .nilIface ∧ EncS w0 w' gW gE gB cap big bs
theorem encS_c {w0 w w1 : World} {gW gE gB cap : Nat} {big : Bool} {bs : List Nat} (h : EncS w0 w gW gE gB cap big bs) (k : Kp w w1) (d : Nat) (s : Sh) (v : Value) (hg : GeoB (d + 1) w.heap.size w1.heap.size w1 v s) (hok : cntOk (d + 1) s = true) (hsm : Small (d + 1) s) (hbits : BitsSh (d + 1) s) (hroom : bs.length + (formSh (d + 1) s 0 big false).length ≤ cap) :
    Calls Tryz.prog 19 #[.pointer (some ⟨gW, 0, none⟩), v] w1 (RetStr w0 gW gE gB cap big (bs ++ formSh (d + 1) s 0 big false)) := by
  obtain ⟨kp, cw, ltW, row, ⟨hWE, hWB⟩, hE, hB, gD, g1, g2, hst⟩ := h
  have kw1 : Kp w0 w1 := kp.trans k
  have cw1 := Kp.cell k cw ltW
  have ltW1 := Nat.lt_of_lt_of_le ltW k.size
  have hsz := kp.size
  rcases hst with ⟨hnil, hN⟩ | ⟨gb, hgb, hgbW, hW⟩
  · obtain ⟨D0, p1, p2, hN1⟩ := hN.re k hB g1 g2
    have hr1 : rowOf w1 gB ≠ some gW := by rw [hN.buf.rowKp k]; exact row
    have hltE := hN.ltE
    have hltB := hN.buf.lt
    refine (wkbEnc_c gW gE gB (D0, w1.heap.size) cap big bs _ v w1 ltW1 cw1 (encN_c gE gB (D0, w1.heap.size) cap big d s 0 (by decide) w.heap.size w1.heap.size v bs w1 hg hok hsm hbits (Nat.le_refl _) ⟨fun b hb => by simp at hb; omega, by omega, .inl p2, Nat.le_refl _⟩ hN1 hroom)).mono ?_
    rintro e w2 ⟨gb, rfl, hgb, he, kb⟩
    have hl1 : gB < w1.heap.size := Nat.lt_of_lt_of_le hltB k.size
    have hn : NewG [gE, gb] w1 gB gW := ⟨hl1, by simp; omega, hWB, hr1⟩
    refine ⟨rfl, kb.kp kw1 (fun b hb => by simp at hb; have := kw1.size; omega) hB kw1.size p1, (kb.cell ltW1 hn).trans cw1, Nat.lt_of_lt_of_le ltW1 kb.size, kb.rowNe hl1 ltW1 hr1, ⟨hWE, hWB⟩, hE, hB, (D0, w1.heap.size), p1, kw1.size, .inr ⟨gb, by have := kw1.size; omega, by omega, he⟩⟩
  · obtain ⟨D0, p1, p2, hW1⟩ := hW.re k hB g1 g2
    have hr1 : rowOf w1 gB ≠ some gW := by rw [hW.buf.rowKp k]; exact row
    have hltb := hW.ltb
    have hltB := hW.buf.lt
    refine (wkbEncW_c gW gE gb gB (D0, w1.heap.size) cap big bs _ v w1 ltW1 cw1 (encAt gE gb gB (D0, w1.heap.size) cap big (d + 1) s w.heap.size w1.heap.size v bs w1 hg hok hsm hbits (Nat.le_refl _) ⟨fun b hb => by simp at hb; omega, by omega, .inl p2, Nat.le_refl _⟩ hW1 hroom)).mono ?_
    rintro e w2 ⟨rfl, he, kb⟩
    have hl1 : gB < w1.heap.size := Nat.lt_of_lt_of_le hltB k.size
    have hn : NewG [gb] w1 gB gW := ⟨hl1, by simp; omega, hWB, hr1⟩
    refine ⟨rfl, kb.kp kw1 (fun b hb => by simp at hb; omega) hB kw1.size p1, (kb.cell ltW1 hn).trans cw1, Nat.lt_of_lt_of_le ltW1 kb.size, kb.rowNe hl1 ltW1 hr1, ⟨hWE, hWB⟩, hE, hB, (D0, w1.heap.size), p1, kw1.size, .inr ⟨gb, hgb, hgbW, he⟩⟩
end Go.Proofs.YtobdohhabgnjiaaGreatDoor

set_option linter.all false
namespace Go.Proofs.YtobdohhabgnjiaaGreatDoor
open PubFl Go.RowKit

attribute [local go_sem] cell_ext frozen_ext ext_setCell cell_store size_ext_eq lt_p0 lt_p1 lt_p2 lt_p3 lt_p4 lt_p5 lt_p6 lt_p7 lt_p8 lt_p9 lt_p10 lt_p11 lt_p12 lt_p13 lt_p14 lt_p15 lt_p16 lt_p17 lt_p18 lt_p19 lt_p20 lt_p21 lt_p22 lt_p23 lt_p24 lt_p25 lt_p26 lt_p27 lt_p28 lt_p29 lt_p30 lt_p31 lt_p32 lt_q1 lt_q2 lt_q3 lt_q4 lt_q5 lt_q6 lt_q7 lt_q8 lt_q9 lt_q10 lt_q11 lt_q12 lt_q13 lt_q14 lt_q15 lt_q16 lt_q17 lt_q18 lt_q19 lt_q20 lt_q21 lt_q22 lt_q23 lt_q24 lt_q25 lt_q26 lt_q27 lt_q28 lt_q29 lt_q30 lt_q31 lt_q32 run_fop run_store_float
attribute [local go_sem high] cmp_eql cmp_neq cmp_lss cmp_leq cmp_gtr cmp_geq

theorem EncS.keep {w0 w w' : World} {gW gE gB cap : Nat} {big : Bool} {bs : List Nat} (h : EncS w0 w gW gE gB cap big bs) (k : Kp w w') : EncS w0 w' gW gE gB cap big bs := by
  obtain ⟨kp, cw, ltW, row, hWs, hE, hB, gD, g1, g2, hst⟩ := h
  rcases hst with ⟨hnil, hN⟩ | ⟨gb, hgb, hgbW, hW⟩
  · exact ⟨kp.trans k, Kp.cell k cw ltW, Nat.lt_of_lt_of_le ltW k.size, by rw [hN.buf.rowKp k]; exact row, hWs, hE, hB, gD, g1, g2, .inl ⟨hnil, hN.kp k⟩⟩
  · exact ⟨kp.trans k, Kp.cell k cw ltW, Nat.lt_of_lt_of_le ltW k.size, by rw [hW.buf.rowKp k]; exact row, hWs, hE, hB, gD, g1, g2, .inr ⟨gb, hgb, hgbW, hW.kp k⟩⟩
theorem encS_new (w0 : World) (big : Bool) (TB TE TW : TypeId) (n1 n2 : Nat) (h1 : n1 = w0.heap.size) (h2 : n2 = w0.heap.size + 1) {W : World}
    (k : Kp (((w0.alloc (.cells #[.slice none 0 0, .int .i64 0, .int .i8 0] TB)).alloc (.cells #[.slice none 0 0, .iface 41 (.pointer (some ⟨n1, 0, none⟩)), .int .u8 (ordN big)] TE)).alloc (.cells #[.pointer (some ⟨n2, 0, none⟩)] TW)) W) :
    EncS w0 W (w0.heap.size + 1 + 1) n2 n1 1000000000000 big [] := by
  subst h1 h2
  refine EncS.keep ?_ k
  have c0 : (((w0.alloc (.cells #[.slice none 0 0, .int .i64 0, .int .i8 0] TB)).alloc (.cells #[.slice none 0 0, .iface 41 (.pointer (some ⟨w0.heap.size, 0, none⟩)), .int .u8 (ordN big)] TE)).alloc (.cells #[.pointer (some ⟨w0.heap.size + 1, 0, none⟩)] TW)).cell? ⟨w0.heap.size, 0, none⟩ = some (.slice none 0 0) := by simp [go_sem]
  refine ⟨(by repeat (first | (with_reducible exact Kp.refl _) | (with_reducible assumption) | (with_reducible apply Kp.ext) | (with_reducible apply Kp.alloc) | (with_reducible apply Kp.drew) | (with_reducible apply Kp.drewN) | (with_reducible refine Kp.setCell ?_ (by first | (dsimp only; omega) | (simp; omega) | (simp; done) | (simp [size_ext_eq]; omega)) _))), by simp [go_sem], by simp, by rw [rowOf_none c0]; simp, by omega, by omega, by omega, (w0.heap.size, w0.heap.size), Nat.le_refl _, Nat.le_refl _, .inl ⟨rfl, ?_⟩⟩
  refine ⟨by simp [go_sem], by simp [go_sem], by simp [go_sem], fun j => ?_, by simp, ⟨.inl ⟨rfl, c0⟩, by simp [go_sem], ⟨0, by simp [go_sem]⟩, fun j => ?_, by simp; omega, Nat.zero_le _, by decide, by simp; omega⟩, by omega, by rw [rowOf_none c0]; simp⟩
  · simp [go_sem]
  · simp [go_sem]
theorem setOrd_new (w0 : World) (TB TE TW : TypeId) (n1 n2 : Nat) (h1 : n1 = w0.heap.size) (h2 : n2 = w0.heap.size + 1) (o : Int) {W : World}
    (k : Kp (((w0.alloc (.cells #[.slice none 0 0, .int .i64 0, .int .i8 0] TB)).alloc (.cells #[.slice none 0 0, .iface 41 (.pointer (some ⟨n1, 0, none⟩)), .int .u8 0] TE)).alloc (.cells #[.pointer (some ⟨n2, 0, none⟩)] TW)) W) :
    Calls Tryz.prog 16 #[.pointer (some ⟨w0.heap.size + 1 + 1, 0, none⟩), .int .u8 o] W (RetW1 (.pointer (some ⟨w0.heap.size + 1 + 1, 0, none⟩)) (W.setCell ⟨w0.heap.size + 1, 2, none⟩ (.int .u8 o))) := by
  subst h1 h2
  have hs := k.size
  simp at hs
  exact setOrd_c _ (w0.heap.size + 1) o W (by omega) (Kp.cell k (by simp [go_sem]) (by simp)) (by omega) 0 (Kp.cell k (by simp [go_sem]) (by simp)) ((Kx.frozen (S := []) (Kx.of_kp k) (by simp) (by simp)).trans (by simp [go_sem]))
theorem BufW.slc {w : World} {gB : Nat} {gD : Nat × Nat} {cap : Nat} {bs : List Nat} (h : BufW w gB gD cap bs) : (bs = [] ∧ w.cell? ⟨gB, 0, none⟩ = some (.slice none 0 0)) ∨ ∃ g c, w.cell? ⟨gB, 0, none⟩ = some (.slice (some ⟨g, 0, none⟩) bs.length c) ∧ g < w.heap.size ∧ bs.length ≤ c ∧ c ≤ 9223372036854775807 ∧ BytesAt w g 0 bs := by
  by_cases e : bs = []
  · subst e
    rcases h.st with h0 | ⟨g, c, cur, h0, _, _, hr, _, _, hl, hm, _⟩
    · exact .inl h0
    · exact .inr ⟨g, c, h0, lt_heap' hr, hl, hm, fun i hi => by simp at hi⟩
  · obtain ⟨g, c, h0, _, _, h1, h2, h3, h4⟩ := h.bytes (by cases bs with | nil => exact absurd rfl e | cons => simp)
    exact .inr ⟨g, c, h0, h1, h2, h3, h4⟩
theorem EncS.buf {w0 w : World} {gW gE gB cap : Nat} {big : Bool} {bs : List Nat} (h : EncS w0 w gW gE gB cap big bs) : gB < w.heap.size ∧ bs.length ≤ cap ∧ w.cell? ⟨gB, 1, none⟩ = some (.int .i64 0) ∧ ((bs = [] ∧ w.cell? ⟨gB, 0, none⟩ = some (.slice none 0 0)) ∨ ∃ g c, w.cell? ⟨gB, 0, none⟩ = some (.slice (some ⟨g, 0, none⟩) bs.length c) ∧ g < w.heap.size ∧ bs.length ≤ c ∧ c ≤ 9223372036854775807 ∧ BytesAt w g 0 bs) := by
  obtain ⟨gD, _, _, hst⟩ := h.st
  rcases hst with ⟨_, hN⟩ | ⟨gb, _, _, hW⟩
  · exact ⟨hN.buf.lt, hN.buf.room, hN.buf.b1, hN.buf.slc⟩
  · exact ⟨hW.buf.lt, hW.buf.room, hW.buf.b1, hW.buf.slc⟩
/-- a form's length, sharper -/
theorem formSh_lenX {d : Nat} {s : Sh} (sys : Nat) (big turns : Bool) (hok : cntOk (d + 1) s = true) (hsm : Small (d + 1) s) (B X : Nat) (hX : 200000 ≤ X) (hB : 13 + 40 * B ≤ X) (hrec : ∀ i, i < s.parts.length → (formSh d (s.parts.getD i dsh) 0 (!(big == turns)) turns).length ≤ B) : (formSh (d + 1) s sys big turns).length ≤ X := by
  obtain ⟨h1, h2, h3⟩ := cntOk_parts hok
  obtain ⟨k1, k2, k3, k4⟩ := shHead_spec h1
  have hg0 := getD_le hsm.1 0
  have hacc : ∀ (k n : Nat) (f : Nat → List Nat) (B m : Nat), (∀ i, i < m → (f i).length ≤ B) → (accB (headB k sys big ++ num32 n big) f m).length ≤ 13 + m * B := fun k n f B m h => by
    have := accB_len (acc := headB k sys big ++ num32 n big) (f := f) (B := B) (k := m) h
    rw [List.length_append, num32_length] at this
    have := head_le k sys big
    omega
  have hbig : s.parts.length * B ≤ 40 * B := Nat.mul_le_mul_right _ k4
  rcases (show s.kind = 1 ∨ s.kind = 2 ∨ s.kind = 3 ∨ s.kind = 4 ∨ s.kind = 5 ∨ s.kind = 6 ∨ s.kind = 7 by omega) with hK | hK | hK | hK | hK | hK | hK
  · rw [formSh_1 hK, List.length_append, ptsForm_length]
    have := head_le 1 sys big
    omega
  · rw [formSh_2 hK, List.length_append, List.length_append, num32_length, ptsForm_length]
    have := head_le 2 sys big
    omega
  · rw [formSh_3 hK]
    have := hacc 3 s.lists.length (fun i => num32 (s.lists.getD i []).length big ++ ptsForm (s.lists.getD i []) big) 4804 s.lists.length fun i hi => by
      have := getD_le hsm.1 i
      rw [List.length_append, num32_length, ptsForm_length]; omega
    omega
  · rw [formSh_4 hK]
    have := hacc 4 (s.lists.getD 0 []).length (fun i => headB 1 0 (!(big == turns)) ++ ptsForm [(s.lists.getD 0 []).getD i (0, 0)] (!(big == turns))) 21 (s.lists.getD 0 []).length fun i hi => by
      rw [List.length_append, headB_length, if_pos rfl, ptsForm_length]
      exact Nat.le_refl _
    omega
  · rw [formSh_5 hK]
    have := hacc 5 s.lists.length (fun i => headB 2 0 (!(big == turns)) ++ num32 (s.lists.getD i []).length (!(big == turns)) ++ ptsForm (s.lists.getD i []) (!(big == turns))) 4809 s.lists.length fun i hi => by
      have := getD_le hsm.1 i
      rw [List.length_append, List.length_append, headB_length, if_pos rfl, num32_length, ptsForm_length]; omega
    omega
  · rw [formSh_6 hK]
    have := hacc 6 s.parts.length _ _ s.parts.length hrec
    omega
  · rw [formSh_7 hK]
    have := hacc 7 s.parts.length _ _ s.parts.length hrec
    omega
theorem formSh_len2 : ∀ {d : Nat} {s : Sh} (sys : Nat) (big turns : Bool), cntOk (d + 1) s = true → Small (d + 1) s → (formSh (d + 1) s sys big turns).length ≤ 200000 * 41 ^ d
  | 0, s, sys, big, turns, hok, hsm => formSh_lenX sys big turns hok hsm 0 _ (by decide) (by decide) fun i hi => absurd ((cntOk_parts hok).2.1 (s.parts.getD i dsh) (mem_getD' hi)).1 (by intro h; cases h)
  | d + 1, s, sys, big, turns, hok, hsm => by
    have hp : 1 ≤ 41 ^ d := Nat.pow_pos (by decide)
    have e := Nat.pow_succ 41 d
    exact formSh_lenX sys big turns hok hsm (200000 * 41 ^ d) _ (by omega) (by omega) fun i hi => formSh_len2 0 _ turns ((cntOk_parts hok).2.1 _ (mem_getD' hi)).1 (hsm.2 _ (mem_getD' hi))
theorem accB_le {f : Nat → List Nat} {M n : Nat} (h : ∀ i, i < n → (f i).length ≤ M) : ∀ k, k ≤ n → (accB [] f k).length ≤ k * M
  | 0, _ => by simp [accB_zero]
  | k + 1, hk => by
    have ih := accB_le h k (by omega)
    have e : accB [] f (k + 1) = accB [] f k ++ f k := rfl
    have h1 := h k (by omega)
    rw [e, List.length_append, Nat.succ_mul]
    omega
set_option maxRecDepth 20000 in
set_option maxHeartbeats 2000000 in
theorem encodeAll_c (big : Bool) (ss : List Sh) (v : Value) (w : World) (h : ShsIn 4 w v ss) (n8 : ss.length ≤ 8) (hok : ∀ i (hi : i < ss.length), cntOk 4 (ss[i]'hi) = true ∧ Small 4 (ss[i]'hi)) :
    Calls Tryz.prog 6 #[v, .bool big] w (RetEnc w (accB [] (fun i => formSh 4 (ss.getD i dsh) 0 big false) ss.length)) := by
  have hM : ∀ i, i < ss.length → (formSh 4 (ss.getD i dsh) 0 big false).length ≤ 200000 * 41 ^ 3 := fun i hi => by
    rw [getD_sh ss i hi]
    exact formSh_len2 (d := 3) 0 big false (hok i hi).1 (hok i hi).2
  have hacc := fun k hk => accB_le hM k hk
  have hsuc : ∀ k, accB [] (fun i => formSh 4 (ss.getD i dsh) 0 big false) (k + 1) = accB [] (fun i => formSh 4 (ss.getD i dsh) 0 big false) k ++ formSh 4 (ss.getD k dsh) 0 big false := fun k => rfl
  have hz : accB [] (fun i => formSh 4 (ss.getD i dsh) 0 big false) 0 = [] := rfl
  obtain ⟨a, cap, rfl, hbg, hcase⟩ := h.at
  generalize accB [] (fun i => formSh 4 (ss.getD i dsh) 0 big false) = lin at *
  have Hacc := Lib.hid hacc
  have HM := Lib.hid hM
  have Hsuc := Lib.hid hsuc
  have Hz := Lib.hid hz
  have Hok := Lib.hid hok
  have Hget := Lib.hid hcase
  clear hacc hM hsuc hz hok hcase hbg h
  go_enter Tryz.func6, Tryz.ntmps6
  go_wp2_with (first | (go_at_call 17; (first | (with_reducible refine (Ret.at_ext (order_c _ _)).mono ?_) | (with_reducible refine (order_c _ _).mono ?_)); rintro e w' ⟨rfl, u, rfl⟩) | (go_at_call 15; (with_reducible refine (newEnc_c _ _).mono ?_); rintro e w3 ⟨rfl, rfl⟩) | (go_at_call 16; (with_reducible refine (setOrd_new w _ _ _ _ _ rfl rfl (ordN big) (by repeat (first | (with_reducible exact Kp.refl _) | (with_reducible assumption) | (with_reducible apply Kp.ext) | (with_reducible apply Kp.alloc) | (with_reducible apply Kp.drew) | (with_reducible apply Kp.drewN) | (with_reducible refine Kp.setCell ?_ (by first | (dsimp only; omega) | (simp; omega) | (simp; done) | (simp [size_ext_eq]; omega)) _)))).mono ?_); rintro e w4 ⟨rfl, rfl⟩))
  go_loopw [22] (fun s22 wr => ∃ k : Nat, k ≤ ss.length ∧ s22 = .int .i64 k ∧ EncS w wr (w.heap.size + 1 + 1) (w.heap.size + 1) w.heap.size 1000000000000 big (lin k)) (fun s22 _ => ss.length - (intOf s22).toNat)
  case atStart => exact ⟨0, by omega, rfl, by rw [Hz.out]; exact encS_new w big _ _ _ _ _ rfl rfl (by repeat (first | (with_reducible exact Kp.refl _) | (with_reducible assumption) | (with_reducible apply Kp.ext) | (with_reducible apply Kp.alloc) | (with_reducible apply Kp.drew) | (with_reducible apply Kp.drewN) | (with_reducible refine Kp.setCell ?_ (by first | (dsimp only; omega) | (simp; omega) | (simp; done) | (simp [size_ext_eq]; omega)) _)))⟩
  case round =>
    obtain ⟨k, hk, rfl, hS⟩ := hrel
    have hkp := hS.kp
    by_cases hlt : k < ss.length
    · obtain ⟨b, off, n3, a3, c3, n4, a4, c4, rfl, hb, g0, g1, g2, g3⟩ := Hget.out k hlt
      have g0 := Kp.cell hkp g0 hb
      have g1 := Kp.cell hkp g1 hb
      have g2 := Kp.cell hkp g2 hb
      have hbx := Nat.lt_of_lt_of_le hb hkp.size
      have hok := Hok.out k hlt
      have hM := HM.out k hlt
      have hA := Hacc.out k hk
      have hst := Hsuc.out k
      rw [getD_sh ss k hlt] at hM hst
      have e41 : 200000 * 41 ^ 3 = 13784200000 := rfl
      rw [e41] at hM hA
      have hroom : (lin k).length + (formSh (3 + 1) (ss[k]'hlt) 0 big false).length ≤ 1000000000000 := by
        show (lin k).length + (formSh 4 (ss[k]'hlt) 0 big false).length ≤ _
        omega
      have HG := Lib.hid (fun w' (k' : Kp wr w') => geometry_c 4 (ss[k]'hlt) _ _ w' ((g3.kp hkp).kp k') hok.1 hok.2)
      have HS := Lib.hid (fun w' w1 v (k1 : Kp wr w') (k2 : Kp w' w1) (hg : GeoB 4 w'.heap.size w1.heap.size w1 v (ss[k]'hlt)) => encS_c (hS.keep k1) k2 3 (ss[k]'hlt) v hg hok.1 hok.2 g3.bits hroom)
      generalize ss[k]'hlt = q at *
      have Hst := Lib.hid hst
      clear hok hM hA hst g3 hS e41 hroom
      go_wp2_with (first | (go_at_call 18; (with_reducible refine (HG.out _ (by repeat (first | (with_reducible exact Kp.refl _) | (with_reducible assumption) | (with_reducible apply Kp.ext) | (with_reducible apply Kp.alloc) | (with_reducible apply Kp.drew) | (with_reducible apply Kp.drewN) | (with_reducible refine Kp.setCell ?_ (by first | (dsimp only; omega) | (simp; omega) | (simp; done) | (simp [size_ext_eq]; omega)) _)))).mono ?_); rintro e w1 ⟨v, u, rfl, hu, hg⟩; have hS1 := Lib.hid (HS.out _ w1 v (by repeat (first | (with_reducible exact Kp.refl _) | (with_reducible assumption) | (with_reducible apply Kp.ext) | (with_reducible apply Kp.alloc) | (with_reducible apply Kp.drew) | (with_reducible apply Kp.drewN) | (with_reducible refine Kp.setCell ?_ (by first | (dsimp only; omega) | (simp; omega) | (simp; done) | (simp [size_ext_eq]; omega)) _))) (by rw [hu]; exact (by repeat (first | (with_reducible exact Kp.refl _) | (with_reducible assumption) | (with_reducible apply Kp.ext) | (with_reducible apply Kp.alloc) | (with_reducible apply Kp.drew) | (with_reducible apply Kp.drewN) | (with_reducible refine Kp.setCell ?_ (by first | (dsimp only; omega) | (simp; omega) | (simp; done) | (simp [size_ext_eq]; omega)) _)))) hg); clear hu; obtain ⟨tv, uv, rfl⟩ := hg.iface; clear hg) | (go_at_call 19; (with_reducible refine (hS1.out).mono ?_); rintro e w2 ⟨rfl, hS2⟩; have HS2 := Lib.hid hS2; clear hS2))
      go_roundw
      case rel => exact ⟨k + 1, by omega, by go_num, by rw [Hst.out]; exact HS2.out⟩
      case measure => simp [intOf]; omega
    · obtain rfl : k = ss.length := by omega
      obtain ⟨hlB, hlen, hb1, hbuf⟩ := hS.buf
      generalize lin ss.length = bs at *
      rcases hbuf with ⟨hnil, hb0⟩ | ⟨g, c, hb0, hgl, hc1, hc2, hby⟩
      · subst hnil
        have HB := Lib.hid (fun w' (k' : Kp wr w') => bufBytesNil_c w.heap.size w' (Nat.lt_of_lt_of_le hlB k'.size) (Kp.cell k' hb0 hlB) (Kp.cell k' hb1 hlB))
        clear hb0 hb1 hS
        go_wp2_with (go_at_call 20; (first | (with_reducible refine (Ret.at_ext (HB.out _ (by repeat (first | (with_reducible exact Kp.refl _) | (with_reducible assumption) | (with_reducible apply Kp.ext) | (with_reducible apply Kp.alloc) | (with_reducible apply Kp.drew) | (with_reducible apply Kp.drewN) | (with_reducible refine Kp.setCell ?_ (by first | (dsimp only; omega) | (simp; omega) | (simp; done) | (simp [size_ext_eq]; omega)) _))))).mono ?_) | (with_reducible refine (HB.out _ (by repeat (first | (with_reducible exact Kp.refl _) | (with_reducible assumption) | (with_reducible apply Kp.ext) | (with_reducible apply Kp.alloc) | (with_reducible apply Kp.drew) | (with_reducible apply Kp.drewN) | (with_reducible refine Kp.setCell ?_ (by first | (dsimp only; omega) | (simp; omega) | (simp; done) | (simp [size_ext_eq]; omega)) _)))).mono ?_)); rintro e w' ⟨rfl, u, rfl⟩)
        refine bodyPost_ret (v := .tuple #[.slice (some ⟨wr.heap.size, 0, none⟩) 0 0, .bool true]) (by simp [results, Tryz.results6, go_sem]) rfl ?_
        exact ⟨_, _, rfl, ext_of (show Kp w _ from (by repeat (first | (with_reducible exact Kp.refl _) | (with_reducible assumption) | (with_reducible apply Kp.ext) | (with_reducible apply Kp.alloc) | (with_reducible apply Kp.drew) | (with_reducible apply Kp.drewN) | (with_reducible refine Kp.setCell ?_ (by first | (dsimp only; omega) | (simp; omega) | (simp; done) | (simp [size_ext_eq]; omega)) _)))), OwnB.kp (show OwnB w.heap.size (wr.alloc (.cells #[] 5)) (.slice (some ⟨wr.heap.size, 0, none⟩) 0 0) [] from OwnB.lit wr [] hkp.size (by decide)) (by repeat (first | (with_reducible exact Kp.refl _) | (with_reducible assumption) | (with_reducible apply Kp.ext) | (with_reducible apply Kp.alloc) | (with_reducible apply Kp.drew) | (with_reducible apply Kp.drewN) | (with_reducible refine Kp.setCell ?_ (by first | (dsimp only; omega) | (simp; omega) | (simp; done) | (simp [size_ext_eq]; omega)) _)))⟩
      · have HB := Lib.hid (fun w' (k' : Kp wr w') => bufBytes_c w.heap.size g bs.length c w' (Nat.lt_of_lt_of_le hlB k'.size) (Kp.cell k' hb0 hlB) (Kp.cell k' hb1 hlB) hc1 hc2)
        have Hby := Lib.hid hby
        have hlw := hkp.size
        clear hb0 hb1 hS hby
        go_wp2_with (first | (go_at_call 20; (first | (with_reducible refine (Ret.at_ext (HB.out _ (by repeat (first | (with_reducible exact Kp.refl _) | (with_reducible assumption) | (with_reducible apply Kp.ext) | (with_reducible apply Kp.alloc) | (with_reducible apply Kp.drew) | (with_reducible apply Kp.drewN) | (with_reducible refine Kp.setCell ?_ (by first | (dsimp only; omega) | (simp; omega) | (simp; done) | (simp [size_ext_eq]; omega)) _))))).mono ?_) | (with_reducible refine (HB.out _ (by repeat (first | (with_reducible exact Kp.refl _) | (with_reducible assumption) | (with_reducible apply Kp.ext) | (with_reducible apply Kp.alloc) | (with_reducible apply Kp.drew) | (with_reducible apply Kp.drewN) | (with_reducible refine Kp.setCell ?_ (by first | (dsimp only; omega) | (simp; omega) | (simp; done) | (simp [size_ext_eq]; omega)) _)))).mono ?_)); rintro e w' ⟨rfl, u, rfl⟩) | (at_builtin; refine wpList_append_bytes rfl (.tmp 37) (.tmp 39) rfl w.heap.size _ [] rfl (OwnB.kp (show OwnB w.heap.size (wr.alloc (.cells #[] 5)) (.slice (some ⟨wr.heap.size, 0, none⟩) 0 0) [] from OwnB.lit wr [] hlw (by decide)) (by repeat (first | (with_reducible exact Kp.refl _) | (with_reducible assumption) | (with_reducible apply Kp.ext) | (with_reducible apply Kp.alloc) | (with_reducible apply Kp.drew) | (with_reducible apply Kp.drewN) | (with_reducible refine Kp.setCell ?_ (by first | (dsimp only; omega) | (simp; omega) | (simp; done) | (simp [size_ext_eq]; omega)) _)))) g 0 _ _ bs rfl rfl ?d2 ?d3 ?d4 ?d5 ?_))
        case d2 => exact Hby.out.kp hgl (by repeat (first | (with_reducible exact Kp.refl _) | (with_reducible assumption) | (with_reducible apply Kp.ext) | (with_reducible apply Kp.alloc) | (with_reducible apply Kp.drew) | (with_reducible apply Kp.drewN) | (with_reducible refine Kp.setCell ?_ (by first | (dsimp only; omega) | (simp; omega) | (simp; done) | (simp [size_ext_eq]; omega)) _)))
        case d3 => simp
        case d4 => omega
        case d5 => simp [size_ext_eq]; omega
        intro v2 w2 ho2 hbw2 _
        have hk2 : Kp w w2 := Below.trans (show Kp w _ from (by repeat (first | (with_reducible exact Kp.refl _) | (with_reducible assumption) | (with_reducible apply Kp.ext) | (with_reducible apply Kp.alloc) | (with_reducible apply Kp.drew) | (with_reducible apply Kp.drewN) | (with_reducible refine Kp.setCell ?_ (by first | (dsimp only; omega) | (simp; omega) | (simp; done) | (simp [size_ext_eq]; omega)) _)))) hbw2
        have Ho2 := Lib.hid ho2
        clear ho2
        go_wp2_with fail
        refine bodyPost_ret (v := .tuple #[v2, .bool true]) (by simp [results, Tryz.results6, go_sem]) rfl ?_
        exact ⟨v2, _, rfl, ext_of hk2, Ho2.out⟩
end Go.Proofs.YtobdohhabgnjiaaGreatDoor
