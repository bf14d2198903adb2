/-
  Memory whose coordinates are rounded one by one; orb.roundPoints, walked.
-/
import Derived.Test.YtohidpmkoehmcaaGreatRnd
import Derived.Test.YtohidpmkoehmcaaGreatGeo3
namespace Go.Proofs.YtohidpmkoehmcaaGreat
open PubFl Go.RowKit

attribute [local go_sem] cell_ext frozen_ext ext_setCell cell_store size_ext_eq lt_p0 lt_p1 lt_p2 lt_p3 lt_p4 lt_p5 lt_p6 lt_p7 lt_p8 lt_p9 lt_p10 lt_p11 lt_p12 lt_p13 lt_p14 lt_p15 lt_p16 lt_p17 lt_p18 lt_p19 lt_p20 lt_p21 lt_p22 lt_p23 lt_p24 lt_p25 lt_p26 lt_p27 lt_p28 lt_p29 lt_p30 lt_p31 lt_p32 lt_q1 lt_q2 lt_q3 lt_q4 lt_q5 lt_q6 lt_q7 lt_q8 lt_q9 lt_q10 lt_q11 lt_q12 lt_q13 lt_q14 lt_q15 lt_q16 lt_q17 lt_q18 lt_q19 lt_q20 lt_q21 lt_q22 lt_q23 lt_q24 lt_q25 lt_q26 lt_q27 lt_q28 lt_q29 lt_q30 lt_q31 lt_q32 run_fop run_store_float
attribute [local go_sem high] cmp_eql cmp_neq cmp_lss cmp_leq cmp_gtr cmp_geq

/-- a cell's value rounded: a coordinate, or a point in an interface value -/
def rdV : Value → Value
  | .float .f64 x => .float .f64 (rdF x)
  | .iface t (.agg ⟨[.float .f64 x, .float .f64 y]⟩) => .iface t (.agg #[.float .f64 (rdF x), .float .f64 (rdF y)])
  | v => v
def itV : Nat → Value → Value
  | 0, v => v
  | k + 1, v => rdV (itV k v)
theorem itV_add (j : Nat) : ∀ k v, itV k (itV j v) = itV (j + k) v
  | 0, v => rfl
  | k + 1, v => by show rdV (itV k (itV j v)) = rdV (itV (j + k) v); rw [itV_add j k v]
theorem itV_fix {v : Value} (h : rdV v = v) : ∀ k, itV k v = v
  | 0 => rfl
  | k + 1 => by show rdV (itV k v) = v; rw [itV_fix h k, h]
/-- all is as it was but for cells that are rounded, in blocks from B on -/
structure Rd (B : Nat) (w w' : World) : Prop where
  os : w'.os = w.os
  tape : w'.tape = w.tape
  output : w'.output = w.output
  size : w.heap.size ≤ w'.heap.size
  block : ∀ b, b < B → b < w.heap.size → w'.heap[b]? = w.heap[b]?
  cell : ∀ b o, b < w.heap.size → ∃ k, w'.cell? ⟨b, o, none⟩ = (w.cell? ⟨b, o, none⟩).map (itV k)
  fz : ∀ b o, b < w.heap.size → w'.frozen? ⟨b, o, none⟩ = w.frozen? ⟨b, o, none⟩
theorem Rd.refl (B : Nat) (w : World) : Rd B w w := ⟨rfl, rfl, rfl, Nat.le_refl _, fun _ _ _ => rfl, fun _ _ _ => ⟨0, by simp [itV]⟩, fun _ _ _ => rfl⟩
theorem Rd.trans {B : Nat} {a b c : World} (h : Rd B a b) (k : Rd B b c) : Rd B a c :=
  ⟨k.os.trans h.os, k.tape.trans h.tape, k.output.trans h.output, Nat.le_trans h.size k.size, fun x hx hs => (k.block x hx (Nat.lt_of_lt_of_le hs h.size)).trans (h.block x hx hs),
    fun x o hx => by
      obtain ⟨i, hi⟩ := h.cell x o hx
      obtain ⟨j, hj⟩ := k.cell x o (Nat.lt_of_lt_of_le hx h.size)
      refine ⟨i + j, ?_⟩
      rw [hj, hi]
      cases a.cell? ⟨x, o, none⟩ with
      | none => rfl
      | some v => show some _ = some _; rw [itV_add],
    fun x o hx => (k.fz x o (Nat.lt_of_lt_of_le hx h.size)).trans (h.fz x o hx)⟩
theorem Rd.of_kp {B : Nat} {w w' : World} (k : Kp w w') : Rd B w w' :=
  ⟨k.os, k.tape, k.output, k.size, fun b _ hs => k.block b hs, fun b o hb => ⟨0, by rw [Below.cell (p := ⟨b, o, none⟩) k hb]; simp [itV]⟩, fun b o hb => Below.frozen (p := ⟨b, o, none⟩) k hb⟩
theorem Rd.kp {B : Nat} {w w' w'' : World} (h : Rd B w w') (k : Kp w' w'') : Rd B w w'' := h.trans (.of_kp k)
/-- one cell rounded -/
theorem Rd.step {B : Nat} {w : World} {b o : Nat} (hB : B ≤ b) {c : Value} (hc : w.cell? ⟨b, o, none⟩ = some c) : Rd B w (w.setCell ⟨b, o, none⟩ (rdV c)) :=
  ⟨rfl, rfl, rfl, by simp, fun b' hb' _ => Below.heap_setCell _ _ _ _ (fun e => by dsimp only at e; omega),
    fun b' o' hb' => by
      by_cases e : (⟨b, o, none⟩ : Addr) = ⟨b', o', none⟩
      · cases e
        exact ⟨1, by rw [cell_store, hc]; rfl⟩
      · exact ⟨0, by rw [World.cell?_setCell_other _ _ _ _ e]; simp [itV]⟩,
    fun b' o' hb' => by simp⟩
theorem Rd.set {B : Nat} {w w' : World} (h : Rd B w w') {b o : Nat} (hB : B ≤ b) {c : Value} (hc : w'.cell? ⟨b, o, none⟩ = some c) : Rd B w (w'.setCell ⟨b, o, none⟩ (rdV c)) := h.trans (.step hB hc)
theorem Rd.below {B : Nat} {w w' : World} (h : Rd B w w') (hB : B ≤ w.heap.size) : Below B w w' := ⟨h.os, h.tape, h.output, h.size, fun b hb => h.block b hb (by omega)⟩
theorem Rd.fix {B : Nat} {w w' : World} (h : Rd B w w') {b o : Nat} {v : Value} (hb : b < w.heap.size) (h0 : w.cell? ⟨b, o, none⟩ = some v) (hv : rdV v = v) : w'.cell? ⟨b, o, none⟩ = some v := by
  obtain ⟨k, hk⟩ := h.cell b o hb
  rw [hk, h0]
  show some (itV k v) = some v
  rw [itV_fix hv]
theorem goodB_spec {x : Nat} (hg : goodB x = true) : canB x = true ∧ canB (rdF x) = true ∧ rdF (rdF x) = rdF x := by
  unfold goodB at hg
  simp only [Bool.and_eq_true, beq_iff_eq] at hg
  exact ⟨hg.1.1, hg.1.2, hg.2⟩
theorem itV_float {x : Nat} (hg : goodB x = true) : ∀ k, itV k (.float .f64 x) = .float .f64 x ∨ itV k (.float .f64 x) = .float .f64 (rdF x)
  | 0 => .inl rfl
  | k + 1 => by
    obtain ⟨_, _, g3⟩ := goodB_spec hg
    right
    show rdV (itV k _) = _
    rcases itV_float hg k with e | e
    · rw [e]; rfl
    · rw [e]; show Value.float .f64 (rdF (rdF x)) = _; rw [g3]
theorem Rd.float {B : Nat} {w w' : World} (h : Rd B w w') {b o x : Nat} (hb : b < w.heap.size) (h0 : w.cell? ⟨b, o, none⟩ = some (.float .f64 x)) (hg : goodB x = true) : ∃ c, w'.cell? ⟨b, o, none⟩ = some (.float .f64 c) ∧ canB c = true ∧ rdF c = rdF x := by
  obtain ⟨g1, g2, g3⟩ := goodB_spec hg
  obtain ⟨k, hk⟩ := h.cell b o hb
  rw [h0] at hk
  have hk : w'.cell? ⟨b, o, none⟩ = some (itV k (.float .f64 x)) := hk
  rcases itV_float hg k with e | e
  · exact ⟨x, by rw [hk, e], g1, rfl⟩
  · exact ⟨rdF x, by rw [hk, e], g2, g3⟩
theorem canB_ok {x : Nat} (h : canB x = true) : FOk .mul x oneF ∧ fop .mul x oneF < 2 ^ 64 ∧ FOk .quo (rndF (fop .mul x oneF)) oneF := by
  unfold canB okF at h
  simp only [Bool.and_eq_true, decide_eq_true_eq] at h
  exact ⟨h.1.1.1, h.1.1.2, h.1.2⟩
def rdP (p : Nat × Nat) : Nat × Nat := (rdF p.1, rdF p.2)
def GoodPs (ps : List (Nat × Nat)) : Prop := ∀ p ∈ ps, goodB p.1 = true ∧ goodB p.2 = true
/-- the first k points are rounded -/
def RdPts (w : World) (g k : Nat) (ps : List (Nat × Nat)) : Prop := ∀ i (hi : i < ps.length), i < k → w.cell? ⟨g, i * 2, none⟩ = some (.float .f64 (rdF (ps[i]'hi).1)) ∧ w.cell? ⟨g, i * 2 + 1, none⟩ = some (.float .f64 (rdF (ps[i]'hi).2))

theorem RdPts.step {w : World} {g k : Nat} {ps : List (Nat × Nat)} (h : RdPts w g k ps) (hk : k < ps.length) {u v : Value} (c0 : w.cell? ⟨g, k * 2, none⟩ = some u) (c1 : w.cell? ⟨g, k * 2 + 1, none⟩ = some v) {a b : Nat} (ha : a = rdF (ps[k]'hk).1) (hb : b = rdF (ps[k]'hk).2) :
    RdPts ((w.setCell ⟨g, k * 2, none⟩ (.float .f64 a)).setCell ⟨g, k * 2 + 1, none⟩ (.float .f64 b)) g (k + 1) ps := fun i hi hik => by
  rw [ha, hb]
  clear ha hb
  generalize hx : rdF (ps[k]'hk).1 = x
  generalize hy : rdF (ps[k]'hk).2 = y
  by_cases c : i = k
  · subst c
    rw [hx, hy]
    constructor
    · rw [World.cell?_setCell_other _ _ _ _ (fun e => by injection e with _ e _; omega), cell_store, c0]; rfl
    · rw [cell_store, World.cell?_setCell_other _ _ _ _ (fun e => by injection e with _ e _; omega), c1]; rfl
  · obtain ⟨h0, h1⟩ := h i hi (by omega)
    constructor
    · rw [World.cell?_setCell_other _ _ _ _ (fun e => by injection e with _ e _; omega), World.cell?_setCell_other _ _ _ _ (fun e => by injection e with _ e _; omega)]; exact h0
    · rw [World.cell?_setCell_other _ _ _ _ (fun e => by injection e with _ e _; omega), World.cell?_setCell_other _ _ _ _ (fun e => by injection e with _ e _; omega)]; exact h1
theorem RdPts.kp {w w' : World} {g k : Nat} {ps : List (Nat × Nat)} (h : RdPts w g k ps) (hg : g < w.heap.size) (hk : Kp w w') : RdPts w' g k ps := fun i hi hik =>
  ⟨Kp.cell hk (h i hi hik).1 hg, Kp.cell hk (h i hi hik).2 hg⟩

set_option maxRecDepth 20000 in
set_option maxHeartbeats 1000000 in
theorem roundPoints_c (B g cap : Nat) (ps : List (Nat × Nat)) (hn : ps.length ≤ 300) (w0 w : World) (hB : B ≤ g) (hg : g < w0.heap.size) (hr : Rd B w0 w) (hp : PtsAt w0 g 0 ps) (hf : ∀ j, w0.frozen? ⟨g, j, none⟩ = false) (G : GoodPs ps) :
    Calls Tryz.prog 31 #[.slice (some ⟨g, 0, none⟩) ps.length cap, .float .f64 oneF] w (fun e w' => e = .returned (.tuple #[]) ∧ Rd B w w' ∧ RdPts w' g ps.length ps) := by
  have Hr := Lib.hid hr
  have Hp := Lib.hid hp
  have Hf := Lib.hid hf
  have HG := Lib.hid G
  clear hr hp hf G
  unfold oneF
  go_enter Tryz.func31, Tryz.ntmps31
  go_wp2_with fail
  go_loopw [7] (fun s7 wr => ∃ k : Nat, k ≤ ps.length ∧ s7 = .int .i64 (k : Nat) ∧ Rd B w wr ∧ RdPts wr g k ps) (fun s7 _ => ps.length - (intOf s7).toNat)
  case atStart => exact ⟨0, by omega, rfl, Rd.refl _ _, fun i hi h => by omega⟩
  case round =>
    obtain ⟨k, hk, rfl, hrw, hd⟩ := hrel
    have hr := Hr.out.trans hrw
    have Hrw := Lib.hid hrw
    have Hd := Lib.hid hd
    by_cases hlt : k < ps.length
    · have hgw : g < wr.heap.size := Nat.lt_of_lt_of_le hg hr.size
      obtain ⟨p0, p1⟩ := Hp.out k hlt
      obtain ⟨G0, G1⟩ := HG.out _ (List.getElem_mem hlt)
      rw [Nat.zero_add] at p0 p1
      obtain ⟨c, e0, c1, c2⟩ := hr.float hg p0 G0
      obtain ⟨m1, m2, m3⟩ := canB_ok c1
      have hr2 := hr.set hB e0
      have hw2 := hrw.set hB e0
      have q0 := hr2.float hg p1 G1
      obtain ⟨c', e1, c1', c2'⟩ := q0
      obtain ⟨n1, n2, n3⟩ := canB_ok c1'
      have hr3 := hw2.set hB e1
      have f0 := hr.fz g (k * 2) hg
      have f1 := hr.fz g (k * 2 + 1) hg
      rw [Hf.out] at f0 f1
      have j1 : (k : Int) < (ps.length : Int) := by omega
      have h0 : (0 : Int) ≤ (k : Int) := by omega
      unfold oneF at m1 m2 m3 n1 n2 n3
      clear p0 p1 G0 G1 hr hr2 hw2 hrw hd c1 c1'
      have e2 := e1
      rw [World.cell?_setCell_other _ _ _ _ (fun e => by injection e with _ e _; omega)] at e2
      have Hr3 := Lib.hid hr3
      have Hc2 := Lib.hid c2
      have Hc2' := Lib.hid c2'
      clear hr3 c2 c2' e1
      go_wp2_with fail
      first | (with_reducible refine wp_region_ext_tail2 14 ?_ ?_ ?_) | refine wp_region_ext_tail 14 ?_ ?_ ?_
      kernel_rfl
      kernel_rfl
      simp only [List.take_succ_cons, List.take_zero, List.drop_succ_cons, List.drop_zero]
      repeat (go_big_quiet_step ((go_at_call 30; with_reducible exact Ret.quiet (round_c _ m2 _))))
      refine wpQuiet_nil ?_
      rintro _ ⟨u, rfl⟩
      go_wp2_with fail
      first | (with_reducible refine wp_region_ext_tail2 14 ?_ ?_ ?_) | refine wp_region_ext_tail 14 ?_ ?_ ?_
      kernel_rfl
      kernel_rfl
      simp only [List.take_succ_cons, List.take_zero, List.drop_succ_cons, List.drop_zero]
      repeat (go_big_quiet_step ((go_at_call 30; with_reducible exact Ret.quiet (round_c _ n2 _))))
      refine wpQuiet_nil ?_
      rintro _ ⟨u, rfl⟩
      go_wp2_with fail
      go_roundw
      case rel =>
        have hr3 : Rd B w ((wr.setCell ⟨g, k * 2, none⟩ (.float .f64 (rdF c))).setCell ⟨g, k * 2 + 1, none⟩ (.float .f64 (rdF c'))) := Hr3.out
        exact ⟨k + 1, by omega, by go_num, Rd.kp hr3 ((Kp.refl _).ext u), RdPts.kp (Hd.out.step hlt e0 e2 Hc2.out Hc2'.out) (by simpa using hgw) ((Kp.refl _).ext u)⟩
      case measure => simp [intOf]; omega
    · obtain rfl : k = ps.length := by omega
      go_wp2_with fail
      go_end0
      exact ⟨rfl, Hrw.out, Hd.out⟩
end Go.Proofs.YtohidpmkoehmcaaGreat
