/-
  A shape all of whose points are changed: plain facts.
-/
import Derived.Test.YtohidpmkoehmcaaGreatGeo3
import Derived.Test.YtohidpmkoehmcaaGreatSo
namespace Go.Proofs.YtohidpmkoehmcaaGreat
open PubFl Go.RowKit

def mapSh (f : Nat × Nat → Nat × Nat) : Nat → Sh → Sh
  | 0, s => s
  | d + 1, s => .mk s.kind (s.lists.map (List.map f)) (s.parts.map (mapSh f d))
variable {f : Nat × Nat → Nat × Nat}
theorem mapSh_kind : ∀ (d : Nat) (s : Sh), (mapSh f d s).kind = s.kind
  | 0, _ => rfl
  | d + 1, .mk _ _ _ => rfl
theorem mapSh_lists (d : Nat) (s : Sh) : (mapSh f (d + 1) s).lists = s.lists.map (List.map f) := rfl
theorem mapSh_parts (d : Nat) (s : Sh) : (mapSh f (d + 1) s).parts = s.parts.map (mapSh f d) := rfl
theorem mapSh_headD (ls : List (List (Nat × Nat))) : ((ls.map (List.map f)).headD []).length = (ls.headD []).length := by
  cases ls with
  | nil => rfl
  | cons l ls => show (l.map f).length = l.length; simp
theorem mapSh_cntOk : ∀ (d : Nat) (s : Sh), cntOk d s = true → cntOk d (mapSh f d s) = true
  | 0, _, h => h
  | d + 1, s, h => by
    obtain ⟨h1, h2, h3⟩ := cntOk_parts h
    have hk := mapSh_kind (f := f) (d + 1) s
    unfold cntOk
    simp only [Bool.and_eq_true, List.all_eq_true]
    refine ⟨⟨?_, fun p hp => ?_⟩, ?_⟩
    · unfold shHead at h1 ⊢
      rw [hk, mapSh_lists, mapSh_parts, List.length_map, List.length_map]; exact h1
    · rw [mapSh_parts] at hp
      obtain ⟨q, hq, rfl⟩ := List.mem_map.1 hp
      obtain ⟨a, b⟩ := h2 q hq
      refine ⟨mapSh_cntOk d q a, ?_⟩
      unfold partB at b ⊢
      rw [hk, mapSh_kind]; exact b
    · unfold formB at h3 ⊢
      rw [hk, mapSh_lists, mapSh_parts, List.length_map, List.length_map, mapSh_headD]; exact h3
theorem mapSh_small : ∀ (d : Nat) (s : Sh), Small d s → Small d (mapSh f d s)
  | 0, _, _ => trivial
  | d + 1, s, ⟨h1, h2⟩ => by
    refine ⟨fun l hl => ?_, fun p hp => ?_⟩
    · rw [mapSh_lists] at hl
      obtain ⟨q, hq, rfl⟩ := List.mem_map.1 hl
      rw [List.length_map]; exact h1 q hq
    · rw [mapSh_parts] at hp
      obtain ⟨q, hq, rfl⟩ := List.mem_map.1 hp
      exact mapSh_small d q (h2 q hq)
/-- something holds of all points -/
def AllSh (P : Nat × Nat → Prop) : Nat → Sh → Prop
  | 0, _ => True
  | d + 1, s => (∀ l ∈ s.lists, ∀ p ∈ l, P p) ∧ ∀ p ∈ s.parts, AllSh P d p
theorem AllSh.imp {P Q : Nat × Nat → Prop} (h : ∀ p, P p → Q p) : ∀ {d : Nat} {s : Sh}, AllSh P d s → AllSh Q d s
  | 0, _, _ => trivial
  | _ + 1, _, ⟨h1, h2⟩ => ⟨fun l hl p hp => h p (h1 l hl p hp), fun p hp => AllSh.imp h (h2 p hp)⟩
theorem AllSh.map {P Q : Nat × Nat → Prop} (h : ∀ p, P p → Q (f p)) : ∀ {d : Nat} {s : Sh}, AllSh P d s → AllSh Q d (mapSh f d s)
  | 0, _, _ => trivial
  | d + 1, s, ⟨h1, h2⟩ => ⟨fun l hl p hp => by
      rw [mapSh_lists] at hl
      obtain ⟨l', hl', rfl⟩ := List.mem_map.1 hl
      obtain ⟨p', hp', rfl⟩ := List.mem_map.1 hp
      exact h p' (h1 l' hl' p' hp'), fun p hp => by
      rw [mapSh_parts] at hp
      obtain ⟨q, hq, rfl⟩ := List.mem_map.1 hp
      exact AllSh.map h (h2 q hq)⟩
theorem getD_map_ls (g : List (Nat × Nat) → List (Nat × Nat)) (hg : g [] = []) (ls : List (List (Nat × Nat))) (i : Nat) : (ls.map g).getD i [] = g (ls.getD i []) := by
  simp only [List.getD_eq_getElem?_getD, List.getElem?_map]
  cases ls[i]? with
  | none => exact hg.symm
  | some l => rfl
theorem getD_map_sh {d : Nat} (qs : List Sh) (i : Nat) (hi : i < qs.length) : (qs.map (mapSh f d)).getD i dsh = mapSh f d (qs.getD i dsh) := by
  rw [getD_sh _ _ (by simpa using hi), List.getElem_map, getD_sh _ _ hi]
theorem AllSh.part {P : Nat × Nat → Prop} {d : Nat} {s : Sh} (h : AllSh P (d + 1) s) {i : Nat} (hi : i < s.parts.length) : AllSh P d (s.parts.getD i dsh) := by
  rw [getD_sh _ _ hi]; exact h.2 _ (List.getElem_mem hi)
theorem AllSh.list {P : Nat × Nat → Prop} {d : Nat} {s : Sh} (h : AllSh P (d + 1) s) {i : Nat} (hi : i < s.lists.length) : ∀ p ∈ s.lists.getD i [], P p := by
  rw [getD_ls _ _ hi]; exact h.1 _ (List.getElem_mem hi)
end Go.Proofs.YtohidpmkoehmcaaGreat
