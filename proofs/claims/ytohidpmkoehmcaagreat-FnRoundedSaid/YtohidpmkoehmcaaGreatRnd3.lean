/-
  orb.Round by kinds, walked.
-/
import Derived.Test.YtohidpmkoehmcaaGreatRnd2
import Derived.Test.YtohidpmkoehmcaaGreatMapSh
import Derived.Test.YtohidpmkoehmcaaGreatOrbEq2
import Derived.Test.YtohidpmkoehmcaaGreatShOf5
import Derived.Lib.LazyBuf
namespace Go.Proofs.YtohidpmkoehmcaaGreat
open PubFl Go.RowKit

attribute [local go_sem] cell_ext frozen_ext ext_setCell cell_store size_ext_eq lt_p0 lt_p1 lt_p2 lt_p3 lt_p4 lt_p5 lt_p6 lt_p7 lt_p8 lt_p9 lt_p10 lt_p11 lt_p12 lt_p13 lt_p14 lt_p15 lt_p16 lt_p17 lt_p18 lt_p19 lt_p20 lt_p21 lt_p22 lt_p23 lt_p24 lt_p25 lt_p26 lt_p27 lt_p28 lt_p29 lt_p30 lt_p31 lt_p32 lt_q1 lt_q2 lt_q3 lt_q4 lt_q5 lt_q6 lt_q7 lt_q8 lt_q9 lt_q10 lt_q11 lt_q12 lt_q13 lt_q14 lt_q15 lt_q16 lt_q17 lt_q18 lt_q19 lt_q20 lt_q21 lt_q22 lt_q23 lt_q24 lt_q25 lt_q26 lt_q27 lt_q28 lt_q29 lt_q30 lt_q31 lt_q32 run_fop run_store_float
attribute [local go_sem high] cmp_eql cmp_neq cmp_lss cmp_leq cmp_gtr cmp_geq
attribute [local irreducible] rdF goodB canB

/-- a point that rounding leaves as it is -/
def FixP (p : Nat × Nat) : Prop := rdF p.1 = p.1 ∧ rdF p.2 = p.2
def GoodP (p : Nat × Nat) : Prop := goodB p.1 = true ∧ goodB p.2 = true
theorem GoodP.fix {p : Nat × Nat} (h : GoodP p) : FixP (rdP p) := ⟨(goodB_spec h.1).2.2, (goodB_spec h.2).2.2⟩
theorem rdV_slice (a : Option Addr) (n c : Nat) : rdV (.slice a n c) = .slice a n c := rfl
theorem rdV_islice (t : TypeId) (a : Option Addr) (n c : Nat) : rdV (.iface t (.slice a n c)) = .iface t (.slice a n c) := rfl
theorem PtsB.fix {B lo hi : Nat} {w w' : World} {u : Value} {ps : List (Nat × Nat)} (h : PtsB lo hi w u ps) (hf : ∀ p ∈ ps, FixP p) (r : Rd B w w') : PtsB lo hi w' u ps := by
  obtain ⟨g, cap, hv, h1, h2, h3, h4, h5, h6⟩ := h
  refine ⟨g, cap, hv, h1, h2, Nat.lt_of_lt_of_le h3 r.size, h4, fun j => (r.fz g j h3).trans (h5 j), fun i hi => ?_⟩
  obtain ⟨f0, f1⟩ := hf _ (List.getElem_mem hi)
  exact ⟨r.fix h3 (h6 i hi).1 (by show Value.float .f64 (rdF _) = _; rw [f0]), r.fix h3 (h6 i hi).2 (by show Value.float .f64 (rdF _) = _; rw [f1])⟩
theorem RowB.fix {B lo hi n : Nat} {E E' : Nat → Nat → Nat → World → Value → Prop} {w w' : World} {v : Value} (h : RowB E lo hi w v n) (hE : ∀ i l h x, i < n → E i l h w x → rdV x = x ∧ E' i l h w' x) (r : Rd B w w') : RowB E' lo hi w' v n := by
  obtain ⟨g, cap, hv, h1, h2, h3, h4, h5, h6⟩ := h
  refine ⟨g, cap, hv, h1, h2, Nat.lt_of_lt_of_le h3 r.size, h4, fun j => (r.fz g j h3).trans (h5 j), fun i hi => ?_⟩
  obtain ⟨x, l, h, c, e, p, q, s, t⟩ := h6 i hi
  obtain ⟨e1, e2⟩ := hE i l h x hi e
  exact ⟨x, l, h, r.fix h3 c e1, e2, p, q, Nat.le_trans s r.size, t⟩
theorem PtsB.rdV {lo hi : Nat} {w : World} {u : Value} {ps : List (Nat × Nat)} (h : PtsB lo hi w u ps) : rdV u = u ∧ ∀ t, rdV (.iface t u) = .iface t u := by
  obtain ⟨g, cap, rfl, _⟩ := h
  exact ⟨rfl, fun _ => rfl⟩
theorem RowB.rdV {lo hi n : Nat} {E : Nat → Nat → Nat → World → Value → Prop} {w : World} {u : Value} (h : RowB E lo hi w u n) : rdV u = u ∧ ∀ t, rdV (.iface t u) = .iface t u := by
  obtain ⟨g, cap, rfl, _⟩ := h
  exact ⟨rfl, fun _ => rfl⟩
theorem ListsB.fix {B lo hi : Nat} {w w' : World} {u : Value} {ls : List (List (Nat × Nat))} (h : ListsB ls lo hi w u) (hf : ∀ l ∈ ls, ∀ p ∈ l, FixP p) (r : Rd B w w') : ListsB ls lo hi w' u :=
  RowB.fix h (fun i l h x hi e => ⟨(PtsB.rdV e).1, PtsB.fix e (by rw [getD_ls _ _ hi]; exact hf _ (List.getElem_mem hi)) r⟩) r
theorem GeoB.fix : ∀ {d B lo hi : Nat} {w w' : World} {v : Value} {s : Sh}, GeoB d lo hi w v s → AllSh FixP d s → cntOk d s = true → Rd B w w' → rdV v = v ∧ GeoB d lo hi w' v s
  | 0, _, _, _, _, _, _, _, h, _, _, _ => h.elim
  | d + 1, B, lo, hi, w, w', v, s, h, hf, hok, r => by
    have hpa := (cntOk_parts hok).2.1
    rcases h with ⟨hk, x, y, h1, h2, rfl⟩ | ⟨hk, ps, u, h1, h2, rfl, h4⟩ | ⟨hk, u, h1, rfl, h3⟩ | ⟨hk, ps, u, h1, h2, rfl, h4⟩ | ⟨hk, u, h1, rfl, h3⟩ | ⟨hk, u, h1, rfl, h3⟩ | ⟨hk, u, h1, rfl, h3⟩
    · have hp := hf.1 [(x, y)] (by rw [h1]; simp) (x, y) (by simp)
      exact ⟨by show Value.iface _ (.agg #[.float .f64 (rdF x), .float .f64 (rdF y)]) = _; rw [hp.1, hp.2], .inl ⟨hk, x, y, h1, h2, rfl⟩⟩
    · exact ⟨(PtsB.rdV h4).2 _, .inr (.inl ⟨hk, ps, u, h1, h2, rfl, h4.fix (hf.1 ps (by rw [h1]; simp)) r⟩)⟩
    · exact ⟨(RowB.rdV h3).2 _, .inr (.inr (.inl ⟨hk, u, h1, rfl, ListsB.fix h3 hf.1 r⟩))⟩
    · exact ⟨(PtsB.rdV h4).2 _, .inr (.inr (.inr (.inl ⟨hk, ps, u, h1, h2, rfl, h4.fix (hf.1 ps (by rw [h1]; simp)) r⟩)))⟩
    · exact ⟨(RowB.rdV h3).2 _, .inr (.inr (.inr (.inr (.inl ⟨hk, u, h1, rfl, ListsB.fix h3 hf.1 r⟩))))⟩
    · refine ⟨(RowB.rdV h3).2 _, .inr (.inr (.inr (.inr (.inr (.inl ⟨hk, u, h1, rfl, RowB.fix h3 (fun i l h x hi e => ⟨(RowB.rdV e).1, ListsB.fix e ?_ r⟩) r⟩)))))⟩
      obtain ⟨d', rfl, _⟩ := poly_part' hk (hpa _ (mem_getD' (z := dsh) hi))
      exact (hf.part hi).1
    · exact ⟨(RowB.rdV h3).2 _, .inr (.inr (.inr (.inr (.inr (.inr ⟨hk, u, h1, rfl, RowB.fix h3 (fun i l h x hi e => GeoB.fix e (hf.part hi) (hpa _ (by rw [getD_sh _ _ hi]; exact List.getElem_mem hi)).1 r) r⟩)))))⟩

theorem roundPtsB_c (B lo hi : Nat) (u : Value) (ps : List (Nat × Nat)) (hn : ps.length ≤ 300) (w0 w : World) (hB : B ≤ lo) (hp : PtsB lo hi w0 u ps) (hr : Rd B w0 w) (G : ∀ p ∈ ps, GoodP p) :
    Calls Tryz.prog 31 #[u, .float .f64 oneF] w (fun e w' => e = .returned (.tuple #[]) ∧ Rd B w w' ∧ PtsB lo hi w' u (ps.map rdP)) := by
  obtain ⟨g, cap, rfl, h1, h2, h3, h4, h5, h6⟩ := hp
  refine (roundPoints_c B g cap ps hn w0 w (by omega) h3 hr h6 h5 G).mono fun e w' ⟨he, hrw, hd⟩ => ⟨he, hrw, g, cap, by rw [List.length_map], h1, h2, ?_, by rw [List.length_map]; exact h4, fun j => ?_, fun i hi => ?_⟩
  · exact Nat.lt_of_lt_of_le h3 (Nat.le_trans hr.size hrw.size)
  · exact ((hr.trans hrw).fz g j h3).trans (h5 j)
  · rw [List.length_map] at hi
    have := hd i hi hi
    rw [Nat.zero_add, List.getElem_map]
    exact this
theorem eqnil (T e : TypeId) (hT : Tryz.prog.underlying T = some (.slice e)) (w : World) (g : Addr) (n c : Nat) : (binOp .eql T (.slice (some g) n c) (.slice none 0 0)).run Tryz.prog w = .ok (.bool false) w := run_eql_slice_nil w T e (some g) n c hT
/-- what orb.Round leaves -/
def RoundPost (B : Nat) (v : Value) (G : World → Prop) (w : World) (e : Ending) (w' : World) : Prop := e = .returned v ∧ Rd B w w' ∧ G w'
theorem conv1 (w : World) : floatOfInt .f64 1 = oneF := by kernel_rfl

set_option maxRecDepth 100000 in
set_option maxHeartbeats 1000000 in
theorem rnd_MultiPoint (B : Nat) (a : Addr) (n c F fc : Nat) (G : World → Prop) (w : World) (hF : F < w.heap.size) (hf : w.cell? ⟨F, 0, none⟩ = some (.int .i64 1))
    (h : ∀ w', Kp w w' → Calls Tryz.prog 31 #[.slice (some a) n c, .float .f64 oneF] w' (fun e w'' => e = .returned (.tuple #[]) ∧ Rd B w' w'' ∧ G w'')) :
    Calls Tryz.prog 19 #[.iface 63 (.slice (some a) n c), .slice (some ⟨F, 0, none⟩) 1 fc] w (RoundPost B (.iface 63 (.slice (some a) n c)) G w) := by
  have H := Lib.hid h
  have hc1 := conv1 w
  unfold oneF at hc1 H
  clear h
  have t_Point := tas_MultiPoint_Point
  have t_MultiPoint := tas_MultiPoint_MultiPoint
  have hnil := eqnil 63 _ Tryz.underlying63
  go_enter Tryz.func19, Tryz.ntmps19
  go_wp2_with (go_at_call 31; (with_reducible refine (H.out _ (by repeat (first | (with_reducible exact Kp.refl _) | (with_reducible assumption) | (with_reducible apply Kp.ext) | (with_reducible apply Kp.alloc) | (with_reducible apply Kp.drew) | (with_reducible apply Kp.drewN) | (with_reducible refine Kp.setCell ?_ (by first | (dsimp only; omega) | (simp; omega) | (simp; done) | (simp [size_ext_eq]; omega)) _)))).mono ?_); rintro e w1 ⟨rfl, hr, hg⟩; have Hr := Lib.hid hr; have Hg := Lib.hid hg; clear hr hg)
  go_ret
  exact ⟨rfl, Hr.out, Hg.out⟩

set_option maxRecDepth 100000 in
set_option maxHeartbeats 1000000 in
theorem rnd_LineString (B : Nat) (a : Addr) (n c F fc : Nat) (G : World → Prop) (w : World) (hF : F < w.heap.size) (hf : w.cell? ⟨F, 0, none⟩ = some (.int .i64 1))
    (h : ∀ w', Kp w w' → Calls Tryz.prog 31 #[.slice (some a) n c, .float .f64 oneF] w' (fun e w'' => e = .returned (.tuple #[]) ∧ Rd B w' w'' ∧ G w'')) :
    Calls Tryz.prog 19 #[.iface 59 (.slice (some a) n c), .slice (some ⟨F, 0, none⟩) 1 fc] w (RoundPost B (.iface 59 (.slice (some a) n c)) G w) := by
  have H := Lib.hid h
  have hc1 := conv1 w
  unfold oneF at hc1 H
  clear h
  have t_Point := tas_LineString_Point
  have t_MultiPoint := tas_LineString_MultiPoint
  have t_LineString := tas_LineString_LineString
  have hnil := eqnil 59 _ Tryz.underlying59
  go_enter Tryz.func19, Tryz.ntmps19
  go_wp2_with (go_at_call 31; (with_reducible refine (H.out _ (by repeat (first | (with_reducible exact Kp.refl _) | (with_reducible assumption) | (with_reducible apply Kp.ext) | (with_reducible apply Kp.alloc) | (with_reducible apply Kp.drew) | (with_reducible apply Kp.drewN) | (with_reducible refine Kp.setCell ?_ (by first | (dsimp only; omega) | (simp; omega) | (simp; done) | (simp [size_ext_eq]; omega)) _)))).mono ?_); rintro e w1 ⟨rfl, hr, hg⟩; have Hr := Lib.hid hr; have Hg := Lib.hid hg; clear hr hg)
  go_ret
  exact ⟨rfl, Hr.out, Hg.out⟩

/-- the elements of a row, and where each lies -/
theorem RowB.pick {lo hi n : Nat} {E : Nat → Nat → Nat → World → Value → Prop} {w : World} {v : Value} (h : RowB E lo hi w v n) : ∃ (g cap : Nat) (q : Nat → Value × Nat × Nat), v = .slice (some ⟨g, 0, none⟩) n cap ∧ lo ≤ g ∧ g < hi ∧ g < w.heap.size ∧ n ≤ cap ∧ (∀ j, w.frozen? ⟨g, j, none⟩ = false) ∧
    ∀ i, i < n → w.cell? ⟨g, i, none⟩ = some (q i).1 ∧ E i (q i).2.1 (q i).2.2 w (q i).1 ∧ lo ≤ (q i).2.1 ∧ (q i).2.2 ≤ hi ∧ (q i).2.2 ≤ w.heap.size ∧ (g < (q i).2.1 ∨ (q i).2.2 ≤ g) := by
  obtain ⟨g, cap, hv, h1, h2, h3, h4, h5, h6⟩ := h
  have key : ∀ i, ∃ p : Value × Nat × Nat, i < n → w.cell? ⟨g, i, none⟩ = some p.1 ∧ E i p.2.1 p.2.2 w p.1 ∧ lo ≤ p.2.1 ∧ p.2.2 ≤ hi ∧ p.2.2 ≤ w.heap.size ∧ (g < p.2.1 ∨ p.2.2 ≤ g) := fun i => by
    by_cases c : i < n
    · obtain ⟨x, l, h, r⟩ := h6 i c
      exact ⟨(x, l, h), fun _ => r⟩
    · exact ⟨(.nilIface, 0, 0), fun h => absurd h c⟩
  exact ⟨g, cap, fun i => Classical.choose (key i), hv, h1, h2, h3, h4, h5, fun i hi => Classical.choose_spec (key i) hi⟩
/-- a row while its elements are rounded -/
structure RowR (B g : Nat) (w wr : World) (q : Nat → Value × Nat × Nat) (E' : Nat → Nat → Nat → World → Value → Prop) (k : Nat) : Prop where
  rd : Rd B w wr
  done : ∀ i, i < k → wr.cell? ⟨g, i, none⟩ = some (rdV (q i).1) ∧ E' i (q i).2.1 (q i).2.2 wr (rdV (q i).1)
theorem RowR.row {B g lo hi n cap : Nat} {w0 w wr : World} {q : Nat → Value × Nat × Nat} {E E' : Nat → Nat → Nat → World → Value → Prop} (h : RowR B g w wr q E' n) (hr : Rd B w0 w) (h1 : lo ≤ g) (h2 : g < hi) (h3 : g < w0.heap.size) (h4 : n ≤ cap) (h5 : ∀ j, w0.frozen? ⟨g, j, none⟩ = false)
    (h6 : ∀ i, i < n → w0.cell? ⟨g, i, none⟩ = some (q i).1 ∧ E i (q i).2.1 (q i).2.2 w0 (q i).1 ∧ lo ≤ (q i).2.1 ∧ (q i).2.2 ≤ hi ∧ (q i).2.2 ≤ w0.heap.size ∧ (g < (q i).2.1 ∨ (q i).2.2 ≤ g)) : RowB E' lo hi wr (.slice (some ⟨g, 0, none⟩) n cap) n := by
  have r := hr.trans h.rd
  refine ⟨g, cap, rfl, h1, h2, Nat.lt_of_lt_of_le h3 r.size, h4, fun j => (r.fz g j h3).trans (h5 j), fun i hi => ?_⟩
  obtain ⟨_, _, a, b, c, d⟩ := h6 i hi
  obtain ⟨e, f⟩ := h.done i hi
  exact ⟨_, _, _, e, f, a, b, Nat.le_trans c r.size, d⟩
def ListR (ls : List (List (Nat × Nat))) (i l h : Nat) (w : World) (x : Value) : Prop := PtsB l h w x ((ls.getD i []).map rdP)
theorem ListR.lists {ls : List (List (Nat × Nat))} {lo hi : Nat} {w : World} {v : Value} (h : RowB (ListR ls) lo hi w v ls.length) : ListsB (ls.map (List.map rdP)) lo hi w v := by
  unfold ListsB
  rw [List.length_map]
  have e : ListE (ls.map (List.map rdP)) = ListR ls := by
    funext i l h w x
    unfold ListE ListR
    rw [getD_map_ls (List.map rdP) rfl]
  rw [e]; exact h
/-- one more element is rounded -/
theorem RowR.list {B g k : Nat} {w w1 w2 : World} {q : Nat → Value × Nat × Nat} {ls : List (List (Nat × Nat))} (h : RowR B g w w1 q (ListR ls) k) (hk : k < ls.length) (G : ∀ l ∈ ls, ∀ p ∈ l, GoodP p) (hg : g < w1.heap.size)
    (hc : w1.cell? ⟨g, k, none⟩ = some (q k).1) (hv : rdV (q k).1 = (q k).1) (hr : Rd B w1 w2) (hn : PtsB (q k).2.1 (q k).2.2 w2 (q k).1 ((ls.getD k []).map rdP)) (hs : ∀ i, i < k → rdV (q i).1 = (q i).1) : RowR B g w w2 q (ListR ls) (k + 1) :=
  ⟨h.rd.trans hr, fun i hi => by
    by_cases c : i = k
    · subst c
      rw [hv]
      exact ⟨hr.fix hg hc hv, hn⟩
    · obtain ⟨a, b⟩ := h.done i (by omega)
      have e := hs i (by omega)
      rw [e] at a b ⊢
      refine ⟨hr.fix hg a e, PtsB.fix b (fun p hp => ?_) hr⟩
      obtain ⟨p', hp', rfl⟩ := List.mem_map.1 hp
      rw [getD_ls _ _ (by omega)] at hp'
      exact (G _ (List.getElem_mem _) p' hp').fix⟩

set_option maxRecDepth 100000 in
set_option maxHeartbeats 2000000 in
theorem rnd_MultiLineString (B lo hi F fc : Nat) (u : Value) (ls : List (List (Nat × Nat))) (hn : ls.length ≤ 40) (hns : ∀ l ∈ ls, l.length ≤ 300) (w0 w : World) (hB : B ≤ lo) (hs : ListsB ls lo hi w0 u) (hr : Rd B w0 w) (G : ∀ l ∈ ls, ∀ p ∈ l, GoodP p) (hF : F < w.heap.size) (hf : w.cell? ⟨F, 0, none⟩ = some (.int .i64 1)) :
    Calls Tryz.prog 19 #[.iface 65 u, .slice (some ⟨F, 0, none⟩) 1 fc] w (RoundPost B (.iface 65 u) (ListsB (ls.map (List.map rdP)) lo hi · u) w) := by
  obtain ⟨g, cap, q, rfl, h1, h2, h3, h4, h5, h6⟩ := RowB.pick hs
  have Hr := Lib.hid hr
  have HG := Lib.hid G
  have H5 := Lib.hid h5
  have H6 := Lib.hid h6
  have Hns := Lib.hid hns
  have hc1 := conv1 w
  have hgw : g < w.heap.size := Nat.lt_of_lt_of_le h3 hr.size
  unfold oneF at hc1
  clear hs hr G h5 h6 hns
  have t_Point := tas_MultiLineString_Point
  have t_MultiPoint := tas_MultiLineString_MultiPoint
  have t_LineString := tas_MultiLineString_LineString
  have t_MultiLineString := tas_MultiLineString_MultiLineString
  have hnil := eqnil 65 _ Tryz.underlying65
  go_enter Tryz.func19, Tryz.ntmps19
  go_wp2_with fail
  go_loopw [80] (fun si wr => ∃ k : Nat, k ≤ ls.length ∧ si = .int .i64 (k : Nat) ∧ RowR B g w wr q (ListR ls) k) (fun si _ => ls.length - (intOf si).toNat)
  case atStart => exact ⟨0, by omega, rfl, Rd.refl _ _, fun i hi => by omega⟩
  case round =>
    obtain ⟨k, hk, rfl, hrow⟩ := hrel
    by_cases hlt : k < ls.length
    · obtain ⟨c0, c1, c2, c3, c4, c5⟩ := H6.out k hlt
      have hv := (PtsB.rdV c1).1
      have hrr := Hr.out.trans hrow.rd
      have cc := hrr.fix h3 c0 hv
      have hgr : g < wr.heap.size := Nat.lt_of_lt_of_le h3 hrr.size
      have hcall := Lib.hid (roundPtsB_c B (q k).2.1 (q k).2.2 (q k).1 (ls.getD k []) (by rw [getD_ls _ _ hlt]; exact Hns.out _ (List.getElem_mem hlt)) w0 wr (by omega) c1 hrr (by rw [getD_ls _ _ hlt]; exact HG.out _ (List.getElem_mem hlt)))
      have Hrow := Lib.hid hrow
      have Hv := Lib.hid hv
      have Hcc := Lib.hid cc
      have hall := Lib.hid (fun i (hi : i < k) => (PtsB.rdV (H6.out i (by omega)).2.1).1)
      obtain ⟨g', cap', hx, _⟩ := id c1
      obtain ⟨pk, hpk⟩ : ∃ pk, ls.getD k [] = pk := ⟨_, rfl⟩
      rw [hpk] at hx hcall
      rw [hx] at cc hcall
      unfold oneF at hcall
      have Hx := Lib.hid hx
      have Hpk := Lib.hid hpk
      clear c0 c1 hrow hrr hv hx hpk
      go_wp2_with (go_at_call 31; (with_reducible refine (hcall.out).mono ?_); rintro e w2 ⟨rfl, hr2, hp2⟩; have Hr2 := Lib.hid hr2; have Hp2 := Lib.hid hp2; clear hr2 hp2)
      go_roundw
      case rel => exact ⟨k + 1, by omega, by go_num, Hrow.out.list hlt HG.out hgr Hcc.out Hv.out Hr2.out (by rw [Hx.out, Hpk.out]; exact Hp2.out) hall.out⟩
      case measure => simp [intOf]; omega
    · obtain rfl : k = ls.length := by omega
      have Hrow := Lib.hid hrow
      clear hrow
      go_wp2_with fail
      go_ret
      exact ⟨rfl, Hrow.out.rd, ListR.lists (Hrow.out.row Hr.out h1 h2 h3 h4 H5.out H6.out)⟩

set_option maxRecDepth 100000 in
set_option maxHeartbeats 2000000 in
theorem rnd_Polygon (B lo hi F fc : Nat) (u : Value) (ls : List (List (Nat × Nat))) (hn : ls.length ≤ 40) (hns : ∀ l ∈ ls, l.length ≤ 300) (w0 w : World) (hB : B ≤ lo) (hs : ListsB ls lo hi w0 u) (hr : Rd B w0 w) (G : ∀ l ∈ ls, ∀ p ∈ l, GoodP p) (hF : F < w.heap.size) (hf : w.cell? ⟨F, 0, none⟩ = some (.int .i64 1)) :
    Calls Tryz.prog 19 #[.iface 61 u, .slice (some ⟨F, 0, none⟩) 1 fc] w (RoundPost B (.iface 61 u) (ListsB (ls.map (List.map rdP)) lo hi · u) w) := by
  obtain ⟨g, cap, q, rfl, h1, h2, h3, h4, h5, h6⟩ := RowB.pick hs
  have Hr := Lib.hid hr
  have HG := Lib.hid G
  have H5 := Lib.hid h5
  have H6 := Lib.hid h6
  have Hns := Lib.hid hns
  have hc1 := conv1 w
  have hgw : g < w.heap.size := Nat.lt_of_lt_of_le h3 hr.size
  unfold oneF at hc1
  clear hs hr G h5 h6 hns
  have t_Point := tas_Polygon_Point
  have t_MultiPoint := tas_Polygon_MultiPoint
  have t_LineString := tas_Polygon_LineString
  have t_MultiLineString := tas_Polygon_MultiLineString
  have t_Ring := tas_Polygon_Ring
  have t_Polygon := tas_Polygon_Polygon
  have hnil := eqnil 61 _ Tryz.underlying61
  go_enter Tryz.func19, Tryz.ntmps19
  go_wp2_with fail
  go_loopw [107] (fun si wr => ∃ k : Nat, k ≤ ls.length ∧ si = .int .i64 (k : Nat) ∧ RowR B g w wr q (ListR ls) k) (fun si _ => ls.length - (intOf si).toNat)
  case atStart => exact ⟨0, by omega, rfl, Rd.refl _ _, fun i hi => by omega⟩
  case round =>
    obtain ⟨k, hk, rfl, hrow⟩ := hrel
    by_cases hlt : k < ls.length
    · obtain ⟨c0, c1, c2, c3, c4, c5⟩ := H6.out k hlt
      have hv := (PtsB.rdV c1).1
      have hrr := Hr.out.trans hrow.rd
      have cc := hrr.fix h3 c0 hv
      have hgr : g < wr.heap.size := Nat.lt_of_lt_of_le h3 hrr.size
      have hcall := Lib.hid (roundPtsB_c B (q k).2.1 (q k).2.2 (q k).1 (ls.getD k []) (by rw [getD_ls _ _ hlt]; exact Hns.out _ (List.getElem_mem hlt)) w0 wr (by omega) c1 hrr (by rw [getD_ls _ _ hlt]; exact HG.out _ (List.getElem_mem hlt)))
      have Hrow := Lib.hid hrow
      have Hv := Lib.hid hv
      have Hcc := Lib.hid cc
      have hall := Lib.hid (fun i (hi : i < k) => (PtsB.rdV (H6.out i (by omega)).2.1).1)
      obtain ⟨g', cap', hx, _⟩ := id c1
      obtain ⟨pk, hpk⟩ : ∃ pk, ls.getD k [] = pk := ⟨_, rfl⟩
      rw [hpk] at hx hcall
      rw [hx] at cc hcall
      unfold oneF at hcall
      have Hx := Lib.hid hx
      have Hpk := Lib.hid hpk
      clear c0 c1 hrow hrr hv hx hpk
      go_wp2_with (go_at_call 31; (with_reducible refine (hcall.out).mono ?_); rintro e w2 ⟨rfl, hr2, hp2⟩; have Hr2 := Lib.hid hr2; have Hp2 := Lib.hid hp2; clear hr2 hp2)
      go_roundw
      case rel => exact ⟨k + 1, by omega, by go_num, Hrow.out.list hlt HG.out hgr Hcc.out Hv.out Hr2.out (by rw [Hx.out, Hpk.out]; exact Hp2.out) hall.out⟩
      case measure => simp [intOf]; omega
    · obtain rfl : k = ls.length := by omega
      have Hrow := Lib.hid hrow
      clear hrow
      go_wp2_with fail
      go_ret
      exact ⟨rfl, Hrow.out.rd, ListR.lists (Hrow.out.row Hr.out h1 h2 h3 h4 H5.out H6.out)⟩

theorem RowR.next {B g k : Nat} {w w1 w2 : World} {q : Nat → Value × Nat × Nat} {E' : Nat → Nat → Nat → World → Value → Prop} (h : RowR B g w w1 q E' k) (hg : g < w1.heap.size) (hr : Rd B w1 w2)
    (hf : ∀ i, i < k → E' i (q i).2.1 (q i).2.2 w1 (rdV (q i).1) → rdV (rdV (q i).1) = rdV (q i).1 ∧ E' i (q i).2.1 (q i).2.2 w2 (rdV (q i).1))
    (hk : w2.cell? ⟨g, k, none⟩ = some (rdV (q k).1) ∧ E' k (q k).2.1 (q k).2.2 w2 (rdV (q k).1)) : RowR B g w w2 q E' (k + 1) :=
  ⟨h.rd.trans hr, fun i hi => by
    by_cases c : i = k
    · subst c; exact hk
    · obtain ⟨a, b⟩ := h.done i (by omega)
      obtain ⟨e1, e2⟩ := hf i (by omega) b
      exact ⟨hr.fix hg a e1, e2⟩⟩
def PolyR (qs : List Sh) (i l h : Nat) (w : World) (x : Value) : Prop := ListsB ((qs.getD i dsh).lists.map (List.map rdP)) l h w x

set_option maxRecDepth 100000 in
set_option maxHeartbeats 1000000 in
theorem rnd_Point (B F fc : Nat) (x y : Nat) (w : World) (hx : canB x = true) (hy : canB y = true) (hF : F < w.heap.size) (hf : w.cell? ⟨F, 0, none⟩ = some (.int .i64 1)) :
    Calls Tryz.prog 19 #[.iface 51 (.agg #[.float .f64 x, .float .f64 y]), .slice (some ⟨F, 0, none⟩) 1 fc] w (RoundPost B (.iface 51 (.agg #[.float .f64 (rdF x), .float .f64 (rdF y)])) (fun _ => True) w) := by
  obtain ⟨m1, m2, m3⟩ := canB_ok hx
  obtain ⟨n1, n2, n3⟩ := canB_ok hy
  have e1 : fop .quo (rndF (fop .mul x oneF)) oneF = rdF x := by unfold rdF; rfl
  have e2 : fop .quo (rndF (fop .mul y oneF)) oneF = rdF y := by unfold rdF; rfl
  have E1 := Lib.hid e1
  have E2 := Lib.hid e2
  have hc1 := conv1 w
  unfold oneF at hc1 m1 m2 m3 n1 n2 n3 E1 E2
  clear e1 e2 hx hy
  have t_Point := tas_Point_Point
  go_enter Tryz.func19, Tryz.ntmps19
  go_wp2_with fail
  first | (with_reducible refine wp_region_ext_lit2 ?_ ?_ ?_) | refine wp_region_ext_lit ?_ ?_ ?_
  kernel_rfl
  kernel_rfl
  repeat (go_big_quiet_step (first | (go_at_call 30; with_reducible exact Ret.quiet (round_c _ m2 _)) | (go_at_call 30; with_reducible exact Ret.quiet (round_c _ n2 _))))
  refine wpQuiet_nil ?_
  rintro _ ⟨u, rfl⟩
  go_wp2_with fail
  go_ret
  refine ⟨by rw [← E1.out, ← E2.out]; rfl, Rd.of_kp (by repeat (first | (with_reducible exact Kp.refl _) | (with_reducible assumption) | (with_reducible apply Kp.ext) | (with_reducible apply Kp.alloc) | (with_reducible apply Kp.drew) | (with_reducible apply Kp.drewN) | (with_reducible refine Kp.setCell ?_ (by first | (dsimp only; omega) | (simp; omega) | (simp; done) | (simp [size_ext_eq]; omega)) _))), trivial⟩

set_option maxRecDepth 100000 in
set_option maxHeartbeats 4000000 in
theorem rnd_MultiPolygon (B lo hi F fc : Nat) (u : Value) (qs : List Sh) (hn : qs.length ≤ 40) (hns : ∀ p ∈ qs, p.lists.length ≤ 40 ∧ ∀ l ∈ p.lists, l.length ≤ 300) (w0 w : World) (hB : B ≤ lo) (hs : RowB (PolyE qs) lo hi w0 u qs.length) (hr : Rd B w0 w) (G : ∀ s ∈ qs, ∀ l ∈ s.lists, ∀ p ∈ l, GoodP p) (hF : F < w.heap.size) (hf : w.cell? ⟨F, 0, none⟩ = some (.int .i64 1)) :
    Calls Tryz.prog 19 #[.iface 67 u, .slice (some ⟨F, 0, none⟩) 1 fc] w (RoundPost B (.iface 67 u) (RowB (PolyR qs) lo hi · u qs.length) w) := by
  obtain ⟨g, cap, q, rfl, h1, h2, h3, h4, h5, h6⟩ := RowB.pick hs
  have Hr := Lib.hid hr
  have HG := Lib.hid G
  have H5 := Lib.hid h5
  have H6 := Lib.hid h6
  have Hns := Lib.hid hns
  have hc1 := conv1 w
  have hgw : g < w.heap.size := Nat.lt_of_lt_of_le h3 hr.size
  unfold oneF at hc1
  clear hs hr G h5 h6 hns
  have t_Point := tas_MultiPolygon_Point
  have t_MultiPoint := tas_MultiPolygon_MultiPoint
  have t_LineString := tas_MultiPolygon_LineString
  have t_MultiLineString := tas_MultiPolygon_MultiLineString
  have t_Ring := tas_MultiPolygon_Ring
  have t_Polygon := tas_MultiPolygon_Polygon
  have t_MultiPolygon := tas_MultiPolygon_MultiPolygon
  have hnil := eqnil 67 _ Tryz.underlying67
  go_enter Tryz.func19, Tryz.ntmps19
  go_wp2_with fail
  go_loopw [124] (fun si wr => ∃ k : Nat, k ≤ qs.length ∧ si = .int .i64 (k : Nat) ∧ RowR B g w wr q (PolyR qs) k) (fun si _ => qs.length - (intOf si).toNat)
  case atStart => exact ⟨0, by omega, rfl, Rd.refl _ _, fun i hi => by omega⟩
  case round =>
    obtain ⟨k, hk, rfl, hrow⟩ := hrel
    by_cases hlt : k < qs.length
    · obtain ⟨c0, c1, c2, c3, c4, c5⟩ := H6.out k hlt
      have hv := (RowB.rdV c1).1
      have hrr := Hr.out.trans hrow.rd
      have cc := hrr.fix h3 c0 hv
      have hgr : g < wr.heap.size := Nat.lt_of_lt_of_le h3 hrr.size
      have hmem := mem_getD' (z := dsh) hlt
      obtain ⟨m40, m300⟩ := Hns.out _ hmem
      have hgood := HG.out _ hmem
      obtain ⟨ls, hls⟩ : ∃ ls, (qs.getD k dsh).lists = ls := ⟨_, rfl⟩
      unfold PolyE at c1
      rw [hls] at c1 m40 m300 hgood
      obtain ⟨g2, cap2, q2, hx, p1, p2, p3, p4, p5, p6⟩ := RowB.pick c1
      have Hls := Lib.hid hls
      have Hrr := Lib.hid hrr
      have Hrow := Lib.hid hrow
      have Hv := Lib.hid hv
      have Hcc := Lib.hid cc
      have H52 := Lib.hid p5
      have H62 := Lib.hid p6
      have Hns2 := Lib.hid m300
      have HG2 := Lib.hid hgood
      rw [hx] at cc
      have Hx := Lib.hid hx
      have hallv := Lib.hid (fun i (hi : i < k) => (RowB.rdV (H6.out i (by omega)).2.1).1)
      have hg2r : g2 < wr.heap.size := Nat.lt_of_lt_of_le p3 hrr.size
      clear c0 c1 hrow hv hx hls p5 p6 m300 hgood hmem hrr
      generalize wr = wo at *
      go_wp2_with fail
      go_loopw [130] (fun si wr => ∃ j : Nat, j ≤ ls.length ∧ si = .int .i64 (j : Nat) ∧ RowR B g2 wo wr q2 (ListR ls) j) (fun si _ => ls.length - (intOf si).toNat)
      case atStart => exact ⟨0, by omega, rfl, Rd.refl _ _, fun i hi => by omega⟩
      case round =>
        obtain ⟨j, hj, rfl, hrow2⟩ := hrel
        by_cases hjl : j < ls.length
        · obtain ⟨c0, c1, c2', c3', c4', c5'⟩ := H62.out j hjl
          have hv := (PtsB.rdV c1).1
          have hrr2 := Hrr.out.trans hrow2.rd
          have cc2 := hrr2.fix p3 c0 hv
          have hgr2 : g2 < wr.heap.size := Nat.lt_of_lt_of_le p3 hrr2.size
          have hcall := Lib.hid (roundPtsB_c B (q2 j).2.1 (q2 j).2.2 (q2 j).1 (ls.getD j []) (by rw [getD_ls _ _ hjl]; exact Hns2.out _ (List.getElem_mem hjl)) w0 wr (by omega) c1 hrr2 (by rw [getD_ls _ _ hjl]; exact HG2.out _ (List.getElem_mem hjl)))
          have Hrow2 := Lib.hid hrow2
          have Hv2 := Lib.hid hv
          have Hcc2 := Lib.hid cc2
          have hall := Lib.hid (fun i (hi : i < j) => (PtsB.rdV (H62.out i (by omega)).2.1).1)
          obtain ⟨g', cap', hx, _⟩ := id c1
          obtain ⟨pk, hpk⟩ : ∃ pk, ls.getD j [] = pk := ⟨_, rfl⟩
          rw [hpk] at hx hcall
          rw [hx] at cc2 hcall
          unfold oneF at hcall
          have Hx2 := Lib.hid hx
          have Hpk := Lib.hid hpk
          clear c0 c1 hrow2 hrr2 hv hx hpk
          go_wp2_with (go_at_call 31; (with_reducible refine (hcall.out).mono ?_); rintro e w2 ⟨rfl, hr2, hp2⟩; have Hr2 := Lib.hid hr2; have Hp2 := Lib.hid hp2; clear hr2 hp2)
          go_roundw
          case rel => exact ⟨j + 1, by omega, by go_num, Hrow2.out.list hjl HG2.out hgr2 Hcc2.out Hv2.out Hr2.out (by rw [Hx2.out, Hpk.out]; exact Hp2.out) hall.out⟩
          case measure => simp [intOf]; omega
        · obtain rfl : j = ls.length := by omega
          have hlist := ListR.lists (hrow2.row Hrr.out p1 p2 p3 p4 H52.out H62.out)
          have Hlist := Lib.hid hlist
          have Hrd2 := Lib.hid hrow2.rd
          clear hrow2 hlist
          go_wp2_with fail
          go_roundw
          case rel =>
            refine ⟨k + 1, by omega, by go_num, Hrow.out.next hgr Hrd2.out (fun i hi e => ?_) ⟨?_, ?_⟩⟩
            · have ev := hallv.out i hi
              rw [ev] at e ⊢
              refine ⟨ev, ListsB.fix e (fun l hl p hp => ?_) Hrd2.out⟩
              obtain ⟨l', hl', rfl⟩ := List.mem_map.1 hl
              obtain ⟨p', hp', rfl⟩ := List.mem_map.1 hp
              exact (HG.out _ (mem_getD' (z := dsh) (by omega)) l' hl' p' hp').fix
            · rw [Hv.out]; exact Hrd2.out.fix hgr Hcc.out Hv.out
            · rw [Hv.out, Hx.out]
              unfold PolyR
              rw [Hls.out]; exact Hlist.out
          case measure => simp [intOf]; omega
    · obtain rfl : k = qs.length := by omega
      have Hrow := Lib.hid hrow
      clear hrow
      go_wp2_with fail
      go_ret
      exact ⟨rfl, Hrow.out.rd, Hrow.out.row Hr.out h1 h2 h3 h4 H5.out H6.out⟩
end Go.Proofs.YtohidpmkoehmcaaGreat
