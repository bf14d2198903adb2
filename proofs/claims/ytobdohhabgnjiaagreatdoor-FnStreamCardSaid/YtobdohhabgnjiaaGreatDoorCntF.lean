/-
  What spec.IsShape asks of a shape: plain facts.
-/
import Derived.Test.YtobdohhabgnjiaaGreatDoorSh
set_option linter.all false
namespace Go.Proofs.YtobdohhabgnjiaaGreatDoor
open PubFl

def formB (s : Sh) : Bool :=
  if s.kind = 1 then decide (s.lists.length = 1) && decide ((s.lists.headD []).length = 1) && decide (s.parts.length = 0)
  else if s.kind = 2 ∨ s.kind = 4 then decide (s.lists.length = 1) && decide (s.parts.length = 0)
  else if s.kind = 3 ∨ s.kind = 5 then decide (s.parts.length = 0)
  else decide (s.lists.length = 0)
def shHead (s : Sh) : Bool := decide (1 ≤ s.kind) && decide (s.kind ≤ 7) && decide (s.lists.length ≤ 40) && decide (s.parts.length ≤ 40)
def partB (k : Int) (p : Sh) : Bool := !(decide (k = 6) && !decide (p.kind = 3))
/-- a shape has the form of its kind, down to so many levels -/
def cntOk : Nat → Sh → Bool
  | 0, _ => false
  | d + 1, s => shHead s && s.parts.all (fun p => cntOk d p && partB s.kind p) && formB s
def lenSum (ls : List (List (Nat × Nat))) : Nat := (ls.map List.length).sum
/-- its points, and its parts -/
def cntP : Nat → Sh → Nat
  | 0, _ => 0
  | d + 1, s => lenSum s.lists + (s.parts.map (cntP d)).sum
def cntM : Nat → Sh → Nat
  | 0, _ => 0
  | d + 1, s => 1 + (s.parts.map (cntM d)).sum
def isShB (s : Sh) : Bool := cntOk 4 s && decide (cntP 4 s ≤ 300) && decide (cntM 4 s ≤ 40)

theorem sum_le {α : Type} {f : α → Nat} {c : Nat} : ∀ {l : List α}, (∀ x ∈ l, f x ≤ c) → (l.map f).sum ≤ l.length * c
  | [], _ => by simp
  | x :: l, h => by
    have h1 := h x (by simp)
    have h2 := sum_le (l := l) (f := f) (c := c) fun y hy => h y (by simp [hy])
    simp only [List.map_cons, List.sum_cons, List.length_cons, Nat.add_mul, Nat.one_mul]
    omega
theorem sum_take_le {α : Type} (f : α → Nat) (l : List α) (k : Nat) : ((l.take k).map f).sum ≤ (l.map f).sum := by
  induction l generalizing k with
  | nil => simp
  | cons x l ih =>
    cases k with
    | zero => simp
    | succ k => simp only [List.take_succ_cons, List.map_cons, List.sum_cons]; have := ih k; omega
theorem sum_take_succ {α : Type} (f : α → Nat) (l : List α) (k : Nat) (h : k < l.length) : ((l.take (k + 1)).map f).sum = ((l.take k).map f).sum + f (l[k]'h) := by
  rw [List.take_succ_eq_append_getElem h, List.map_append, List.sum_append]; simp
theorem le_sum {α : Type} {f : α → Nat} {l : List α} {x : α} (h : x ∈ l) : f x ≤ (l.map f).sum := by
  induction l with
  | nil => simp at h
  | cons y l ih =>
    simp only [List.map_cons, List.sum_cons]
    rcases List.mem_cons.1 h with rfl | h
    · omega
    · have := ih h; omega

theorem cntOk_parts {d : Nat} {s : Sh} (h : cntOk (d + 1) s = true) : shHead s = true ∧ (∀ p ∈ s.parts, cntOk d p = true ∧ partB s.kind p = true) ∧ formB s = true := by
  unfold cntOk at h
  simp only [Bool.and_eq_true, List.all_eq_true] at h
  exact ⟨h.1.1, h.1.2, h.2⟩
theorem shHead_spec {s : Sh} (h : shHead s = true) : 1 ≤ s.kind ∧ s.kind ≤ 7 ∧ s.lists.length ≤ 40 ∧ s.parts.length ≤ 40 := by
  unfold shHead at h
  simp only [Bool.and_eq_true, decide_eq_true_eq] at h
  exact ⟨h.1.1.1, h.1.1.2, h.1.2, h.2⟩
theorem cntM_le : ∀ {d : Nat} {s : Sh}, cntOk d s = true → cntM d s ≤ 41 ^ d
  | 0, s, h => by cases h
  | d + 1, s, h => by
    obtain ⟨h1, h2, _⟩ := cntOk_parts h
    obtain ⟨_, _, _, h3⟩ := shHead_spec h1
    have := sum_le (f := cntM d) (c := 41 ^ d) fun p hp => cntM_le (h2 p hp).1
    have h4 : s.parts.length * 41 ^ d ≤ 40 * 41 ^ d := Nat.mul_le_mul_right _ h3
    have h5 : 0 < 41 ^ d := Nat.pow_pos (by decide)
    unfold cntM
    rw [Nat.pow_succ]
    omega
/-- all lists are within reach -/
def LensOk : Nat → Sh → Prop
  | 0, _ => True
  | d + 1, s => (∀ l ∈ s.lists, l.length ≤ big) ∧ ∀ p ∈ s.parts, LensOk d p
theorem LissIn.lens {w : World} {v : Value} {ls : List (List (Nat × Nat))} (h : LissIn w v ls) : ∀ l ∈ ls, l.length ≤ big := by
  obtain ⟨a, cap, hv, hn, h⟩ := h
  intro l hl
  rcases h with h | ⟨b, off, rfl, hb, h⟩
  · rw [h] at hl; cases hl
  · obtain ⟨i, hi, rfl⟩ := List.getElem_of_mem hl
    obtain ⟨x, _, a', cap', _, hn', _⟩ := h i hi
    exact hn'
theorem ShIn.lens {w : World} : ∀ {d : Nat} {lv pv : Value} {s : Sh}, ShIn d w lv pv s → LensOk d s
  | 0, _, _, _, _ => trivial
  | d + 1, lv, pv, s, h => by
    obtain ⟨hl, a, cap, hv, hn, h⟩ := h
    refine ⟨hl.lens, fun p hp => ?_⟩
    rcases h with h | ⟨b, off, rfl, hb, h⟩
    · rw [h] at hp; cases hp
    · obtain ⟨i, hi, rfl⟩ := List.getElem_of_mem hp
      obtain ⟨lv', pv', _, _, _, h3⟩ := h i hi
      exact ShIn.lens h3
theorem cntP_le : ∀ {d : Nat} {s : Sh}, cntOk d s = true → LensOk d s → cntP d s ≤ cntM d s * (40 * big)
  | 0, s, h, _ => by cases h
  | d + 1, s, h, hl => by
    obtain ⟨h1, h2, _⟩ := cntOk_parts h
    obtain ⟨_, _, h0, h3⟩ := shHead_spec h1
    obtain ⟨l1, l2⟩ := hl
    have s1 : lenSum s.lists ≤ 40 * big := by
      have := sum_le (f := List.length) (c := big) (l := s.lists) l1
      have := Nat.mul_le_mul_right big h0
      unfold lenSum
      omega
    have s2 : ∀ l : List Sh, (∀ p ∈ l, p ∈ s.parts) → (l.map (cntP d)).sum ≤ (l.map (cntM d)).sum * (40 * big) := by
      intro l
      induction l with
      | nil => intro _; simp
      | cons p l ih =>
        intro hp
        have i1 := ih fun q hq => hp q (by simp [hq])
        have i2 := cntP_le (h2 p (hp p (by simp))).1 (l2 p (hp p (by simp)))
        simp only [List.map_cons, List.sum_cons, Nat.add_mul]
        omega
    have := s2 s.parts fun _ h => h
    unfold cntP cntM
    rw [Nat.add_mul]
    omega
theorem cntM_le3 {d : Nat} (hd : d < 4) {q : Sh} (h : cntOk d q = true) : cntM d q ≤ 68921 := Nat.le_trans (cntM_le h) (Nat.le_trans (Nat.pow_le_pow_right (by decide) (show d ≤ 3 by omega)) (by decide))
theorem sumM_le {d : Nat} (hd : d < 4) {l : List Sh} (hl : l.length ≤ 40) (h : ∀ q ∈ l, cntOk d q = true) : (l.map (cntM d)).sum ≤ 2756840 := by
  have h0 := sum_le (f := cntM d) (c := 68921) (l := l) fun q hq => cntM_le3 hd (h q hq)
  omega
theorem sumP_le {d : Nat} : ∀ {l : List Sh}, (∀ q ∈ l, cntOk d q = true ∧ LensOk d q) → (l.map (cntP d)).sum ≤ (l.map (cntM d)).sum * (40 * big)
  | [], _ => by simp
  | q :: l, hq => by
    have i1 := sumP_le (l := l) fun x hx => hq x (by simp [hx])
    have i2 := cntP_le (hq q (by simp)).1 (hq q (by simp)).2
    simp only [List.map_cons, List.sum_cons, Nat.add_mul]
    omega
end Go.Proofs.YtobdohhabgnjiaaGreatDoor
