/-
  A shape of whole numbers, rounded: plain facts.
-/
import Derived.Test.YtohidpmkoehmcaaGreatRnd5
import Derived.Test.YtohidpmkoehmcaaGreatChg
import Derived.Test.YtohidpmkoehmcaaGreatWhl
namespace Go.Proofs.YtohidpmkoehmcaaGreat
open PubFl Go.RowKit

attribute [local go_sem] cell_ext frozen_ext ext_setCell cell_store size_ext_eq lt_p0 lt_p1 lt_p2 lt_p3 lt_p4 lt_p5 lt_p6 lt_p7 lt_p8 lt_p9 lt_p10 lt_p11 lt_p12 lt_p13 lt_p14 lt_p15 lt_p16 lt_p17 lt_p18 lt_p19 lt_p20 lt_p21 lt_p22 lt_p23 lt_p24 lt_p25 lt_p26 lt_p27 lt_p28 lt_p29 lt_p30 lt_p31 lt_p32 lt_q1 lt_q2 lt_q3 lt_q4 lt_q5 lt_q6 lt_q7 lt_q8 lt_q9 lt_q10 lt_q11 lt_q12 lt_q13 lt_q14 lt_q15 lt_q16 lt_q17 lt_q18 lt_q19 lt_q20 lt_q21 lt_q22 lt_q23 lt_q24 lt_q25 lt_q26 lt_q27 lt_q28 lt_q29 lt_q30 lt_q31 lt_q32 run_fop run_store_float
attribute [local go_sem high] cmp_eql cmp_neq cmp_lss cmp_leq cmp_gtr cmp_geq
attribute [local irreducible] rdF goodB canB

structure Tab (x : Nat) : Prop where
  g0 : goodB x = true
  o1 : FOk .add x quarterF
  g1 : goodB (fop .add x quarterF) = true
  o2 : FOk .add x threeF
  g2 : goodB (fop .add x threeF) = true
  o3 : FOk .add x oneF
  b1 : fop .add x quarterF < 2 ^ 64
  b2 : fop .add x threeF < 2 ^ 64
  b3 : fop .add x oneF < 2 ^ 64
  e0 : eqF (rdF x) x = true
  e1 : eqF (rdF (fop .add x quarterF)) x = true
  e2 : eqF (rdF (fop .add x threeF)) (fop .add x oneF) = true
theorem tab {x : Nat} (h64 : x < 2 ^ 64) (h : wholeB x = true) : Tab x := by
  obtain ⟨n, _, h0, h1, rfl⟩ := wholeB_int h64 h
  have ht := table_all n h0 h1
  unfold tableB okF at ht
  simp only [Bool.and_eq_true, decide_eq_true_eq] at ht
  obtain ⟨⟨⟨⟨⟨⟨⟨⟨⟨⟨⟨a, b⟩, c⟩, d⟩, e⟩, f⟩, g⟩, h⟩, i⟩, j⟩, k⟩, l⟩ := ht
  exact ⟨a, b, c, d, e, f, g, h, i, j, k, l⟩
theorem rd_bits {x : Nat} (h : goodB x = true) : rdF x < 2 ^ 64 := by
  have h := (goodB_spec h).1
  unfold canB at h
  simp only [Bool.and_eq_true, decide_eq_true_eq] at h
  exact h.2
def TabP (p : Nat × Nat) : Prop := Tab p.1 ∧ Tab p.2
theorem all_tab : ∀ {d : Nat} {s : Sh}, BitsSh d s → allSh wholeB d s = true → AllSh TabP d s
  | 0, _, _, _ => trivial
  | d + 1, s, ⟨h1, h2⟩, h => by
    unfold allSh at h
    rw [Bool.and_eq_true] at h
    obtain ⟨a, b⟩ := h
    refine ⟨fun l hl p hp => ?_, fun p hp => ?_⟩
    · obtain ⟨i, hi, rfl⟩ := List.getElem_of_mem hl
      have := all_to a i hi
      rw [getD_ls _ _ hi] at this
      obtain ⟨j, hj, rfl⟩ := List.getElem_of_mem hp
      have h3 := all_to this j hj
      rw [getD_in _ _ hj, Bool.and_eq_true] at h3
      obtain ⟨k1, k2⟩ := h1 _ hl j hj
      exact ⟨tab k1 h3.1, tab k2 h3.2⟩
    · obtain ⟨i, hi, rfl⟩ := List.getElem_of_mem hp
      have := all_to b i hi
      rw [getD_sh _ _ hi] at this
      exact all_tab (h2 _ hp) this
theorem mapSh_id : ∀ (d : Nat) (s : Sh), mapSh (fun p => p) d s = s
  | 0, _ => rfl
  | d + 1, .mk k ls ps => by
    have h : ps.map (mapSh (fun p => p) d) = ps := by
      rw [List.map_congr_left (g := id) (fun s _ => mapSh_id d s), List.map_id]
    show Sh.mk k (ls.map (List.map fun p => p)) (ps.map (mapSh (fun p => p) d)) = _
    rw [h]
    congr 1
    rw [List.map_congr_left (g := id) (fun l _ => by simp), List.map_id]
theorem mapSh_map {f g : Nat × Nat → Nat × Nat} : ∀ (d : Nat) (s : Sh), mapSh f d (mapSh g d s) = mapSh (fun p => f (g p)) d s
  | 0, _ => rfl
  | d + 1, .mk k ls ps => by
    show Sh.mk k ((ls.map (List.map g)).map (List.map f)) ((ps.map (mapSh g d)).map (mapSh f d)) = Sh.mk k (ls.map (List.map fun p => f (g p))) (ps.map (mapSh (fun p => f (g p)) d))
    congr 1
    · rw [List.map_map]
      exact List.map_congr_left fun l _ => by simp [Function.comp_def]
    · rw [List.map_map]
      exact List.map_congr_left fun p _ => mapSh_map d p
theorem mapSh_bits {f : Nat × Nat → Nat × Nat} : ∀ {d : Nat} {s : Sh}, AllSh (fun p => (f p).1 < 2 ^ 64 ∧ (f p).2 < 2 ^ 64) d s → BitsSh d (mapSh f d s)
  | 0, _, _ => trivial
  | d + 1, s, ⟨h1, h2⟩ => by
    refine ⟨fun l hl i hi => ?_, fun p hp => ?_⟩
    · rw [mapSh_lists] at hl
      obtain ⟨l', hl', rfl⟩ := List.mem_map.1 hl
      rw [List.getElem_map]
      exact h1 _ hl' _ (List.getElem_mem _)
    · rw [mapSh_parts] at hp
      obtain ⟨q, hq, rfl⟩ := List.mem_map.1 hp
      exact mapSh_bits (h2 q hq)
theorem mapSh_eq {f g : Nat × Nat → Nat × Nat} : ∀ {d : Nat} {s : Sh}, AllSh (fun p => eqP (f p) (g p) = true) d s → eqSh d (mapSh f d s) (mapSh g d s) = true
  | 0, _, _ => rfl
  | d + 1, s, ⟨h1, h2⟩ => by
    refine (eq_facts d _ _).all ?_ ?_ ?_ ?_ ?_
    · rw [mapSh_kind, mapSh_kind]
    · rw [mapSh_lists, mapSh_lists, List.length_map, List.length_map]
    · rw [mapSh_parts, mapSh_parts, List.length_map, List.length_map]
    · intro i hi
      rw [mapSh_lists, List.length_map] at hi
      rw [mapSh_lists, mapSh_lists]
      show eqPts ((s.lists.map (List.map f)).getD i []) ((s.lists.map (List.map g)).getD i []) = true
      rw [getD_map_ls (List.map f) rfl, getD_map_ls (List.map g) rfl]
      unfold eqPts
      rw [List.length_map, List.length_map, decide_eq_true rfl, Bool.true_and]
      refine all_yes fun j hj => ?_
      have h := h1 _ (mem_getD' (z := []) hi) _ (List.getElem_mem hj)
      rw [getD_in _ _ (by rw [List.length_map]; exact hj), getD_in _ _ (by rw [List.length_map]; exact hj), List.getElem_map, List.getElem_map]
      exact h
    · intro i hi
      rw [mapSh_parts, List.length_map] at hi
      rw [mapSh_parts, mapSh_parts]
      show eqSh d ((s.parts.map (mapSh f d)).getD i dsh) ((s.parts.map (mapSh g d)).getD i dsh) = true
      rw [getD_map_sh _ _ hi, getD_map_sh _ _ hi]
      exact mapSh_eq (h2 _ (mem_getD' hi))
theorem mapSh_cntP {f : Nat × Nat → Nat × Nat} : ∀ (d : Nat) (s : Sh), cntP d (mapSh f d s) = cntP d s
  | 0, _ => rfl
  | d + 1, s => by
    unfold cntP lenSum
    rw [mapSh_lists, mapSh_parts, List.map_map, List.map_map]
    congr 2
    · exact List.map_congr_left fun l _ => by simp
    · exact List.map_congr_left fun p _ => mapSh_cntP d p
theorem mapSh_cntM {f : Nat × Nat → Nat × Nat} : ∀ (d : Nat) (s : Sh), cntM d (mapSh f d s) = cntM d s
  | 0, _ => rfl
  | d + 1, s => by
    unfold cntM
    rw [mapSh_parts, List.map_map]
    congr 2
    exact List.map_congr_left fun p _ => mapSh_cntM d p
theorem mapSh_isSh {f : Nat × Nat → Nat × Nat} {s : Sh} (h : isShB s = true) : isShB (mapSh f 4 s) = true := by
  unfold isShB at h ⊢
  simp only [Bool.and_eq_true] at h ⊢
  rw [mapSh_cntP, mapSh_cntM]
  exact ⟨⟨mapSh_cntOk 4 s h.1.1, h.1.2⟩, h.2⟩
/-- what the law needs of a shape of whole numbers -/
structure RndFacts (s : Sh) : Prop where
  ok : isShB s = true
  a1 : AllSh (AddOk quarterF) 4 s
  a2 : AllSh (AddOk threeF) 4 s
  a3 : AllSh (AddOk oneF) 4 s
  g0 : AllSh GoodP 4 s
  g1 : AllSh GoodP 4 (mapSh (addP quarterF) 4 s)
  g2 : AllSh GoodP 4 (mapSh (addP threeF) 4 s)
  b1 : BitsSh 4 (mapSh (addP quarterF) 4 s)
  b2 : BitsSh 4 (mapSh (addP threeF) 4 s)
  b3 : BitsSh 4 (mapSh (addP oneF) 4 s)
  r0 : BitsSh 4 (mapSh rdP 4 s)
  r1 : BitsSh 4 (mapSh rdP 4 (mapSh (addP quarterF) 4 s))
  r2 : BitsSh 4 (mapSh rdP 4 (mapSh (addP threeF) 4 s))
  e0 : eqSh 4 (mapSh rdP 4 s) s = true
  e1 : eqSh 4 (mapSh rdP 4 (mapSh (addP quarterF) 4 s)) s = true
  e2 : eqSh 4 (mapSh rdP 4 (mapSh (addP threeF) 4 s)) (mapSh (addP oneF) 4 s) = true
theorem rnd_facts {s : Sh} (hb : BitsSh 4 s) (h : whShB s = true) : RndFacts s := by
  unfold whShB at h
  rw [Bool.and_eq_true] at h
  have ht := all_tab hb h.2
  have g0 : AllSh GoodP 4 s := ht.imp fun p hp => ⟨hp.1.g0, hp.2.g0⟩
  have g1 : AllSh GoodP 4 (mapSh (addP quarterF) 4 s) := AllSh.map (fun p hp => ⟨hp.1.g1, hp.2.g1⟩) ht
  have g2 : AllSh GoodP 4 (mapSh (addP threeF) 4 s) := AllSh.map (fun p hp => ⟨hp.1.g2, hp.2.g2⟩) ht
  have rb : ∀ p, GoodP p → (rdP p).1 < 2 ^ 64 ∧ (rdP p).2 < 2 ^ 64 := fun p hp => ⟨rd_bits hp.1, rd_bits hp.2⟩
  refine ⟨h.1, ht.imp fun p hp => ⟨hp.1.o1, hp.2.o1⟩, ht.imp fun p hp => ⟨hp.1.o2, hp.2.o2⟩, ht.imp fun p hp => ⟨hp.1.o3, hp.2.o3⟩, g0, g1, g2, mapSh_bits (ht.imp fun p hp => ⟨hp.1.b1, hp.2.b1⟩), mapSh_bits (ht.imp fun p hp => ⟨hp.1.b2, hp.2.b2⟩),
    mapSh_bits (ht.imp fun p hp => ⟨hp.1.b3, hp.2.b3⟩), mapSh_bits (g0.imp rb), mapSh_bits (g1.imp rb), mapSh_bits (g2.imp rb), ?_, ?_, ?_⟩
  · have h := mapSh_eq (f := rdP) (g := fun p => p) (d := 4) (s := s) (ht.imp fun p hp => by unfold eqP; rw [Bool.and_eq_true]; exact ⟨hp.1.e0, hp.2.e0⟩)
    rw [mapSh_id] at h; exact h
  · have h := mapSh_eq (f := fun p => rdP (addP quarterF p)) (g := fun p => p) (d := 4) (s := s) (ht.imp fun p hp => by unfold eqP; rw [Bool.and_eq_true]; exact ⟨hp.1.e1, hp.2.e1⟩)
    rw [mapSh_id] at h; rw [mapSh_map]; exact h
  · have h := mapSh_eq (f := fun p => rdP (addP threeF p)) (g := addP oneF) (d := 4) (s := s) (ht.imp fun p hp => by unfold eqP; rw [Bool.and_eq_true]; exact ⟨hp.1.e2, hp.2.e2⟩)
    rw [mapSh_map]; exact h
end Go.Proofs.YtohidpmkoehmcaaGreat
