/-
  A region that draws its order, whose first operations can come in one order alone; the rest reads old memory and calls functions that keep it: the first ones walked as a plain row, the rest once, in the order of the text.
  A region that draws its order, walked in an order of our own: loads of old memory are taken first, what can come up alone is carried out, and the rest, in the order of the text, reads old memory and calls functions that keep it.
-/
import Derived.Test.YtohidpmkoehmcaaGreatDoorWk
import Derived.StillTail
import Derived.OrdersHeld
set_option linter.all false
namespace PubFl
open Go Go.RowKit

section
variable {P : Program} {ops : Array Oper} {md : Region.Mode}

def midQ (Q : Exit → Act → World → Prop) (M : Act → World → Prop) : Exit → Act → World → Prop
  | .normal, a, w => M a w
  | e, a, w => Q e a w
theorem midQ_normal (Q : Exit → Act → World → Prop) (M : Act → World → Prop) (a : Act) (w : World) : midQ Q M .normal a w = M a w := rfl

theorem wp_of_midQ {Q : Exit → Act → World → Prop} {M K : Act → World → Prop} {o : Oper} {a : Act} {w : World} (h : o.wp P a w K (midQ Q M)) : o.wp P a w K Q := by
  unfold Oper.wp at *
  generalize (execOp a.eval o).run P w = r at *
  cases r with
  | ok n w' => cases n <;> exact h
  | halt s w' => cases s <;> exact h

def preB (md : Region.Mode) (ops : Array Oper) (g : Nat) : Nat → Nat → Array Bool → Bool
  | 0, k, listed => Region.lexFrom md ops g k listed
  | f + 1, k, listed => (Region.ready md ops listed == [k]) && preB md ops g f (k + 1) (listed.setIfInBounds k true)

theorem wpAny_of_pre {Q : Exit → Act → World → Prop} {M : Act → World → Prop} {g : Nat} (hM : ∀ k listed a w, Region.lexFrom md ops g k listed = true → (∀ j, k + g = j → j = ops.size) → M a w → wpAny P md ops Q g listed a w) :
    ∀ (l : List Oper) (k : Nat) (listed : Array Bool) (a : Act) (w : World), (∀ j, j < l.length → l[j]? = ops[k + j]?) → k + l.length + g = ops.size → preB md ops g l.length k listed = true → wpList P ops (midQ Q M) l a w →
      wpAny P md ops Q (l.length + g) listed a w
  | [], k, listed, a, w, _, hk, hB, h => by
    have := hM k listed a w hB (fun j hj => by simp at hk; omega) h
    simpa using this
  | o :: l, k, listed, a, w, hl, hk, hB, h => by
    have h0 : ops[k]? = some o := by simpa using (hl 0 (by simp)).symm
    simp only [List.length_cons, preB, Bool.and_eq_true, beq_iff_eq] at hB
    simp only [List.length_cons] at hk ⊢
    rw [show l.length + 1 + g = (l.length + g) + 1 by omega]
    refine ⟨fun h1 => (by rw [hB.1] at h1; cases h1), fun i hi => ?_⟩
    rw [hB.1] at hi
    have hik : i = k := by simpa using hi
    subst hik
    have hw : wpOp P ops Q i (wpList P ops (midQ Q M) l) a w := by
      unfold wpOp
      simp only [h0]
      unfold wpList at h
      split
      · rename_i hw
        rw [if_pos hw] at h
        rcases h with h | ⟨h, h'⟩
        · exact .inl (wp_of_midQ h)
        · exact .inr ⟨h, h'⟩
      · rename_i hw
        rw [if_neg hw] at h
        exact h
    exact wpOp_mono (fun a' w' h' => wpAny_of_pre hM l (i + 1) _ a' w' (fun j hj => by have := hl (j + 1) (by simp; omega); simpa [Nat.add_assoc, Nat.add_comm 1 j] using this) (by omega) hB.2 h') hw

theorem wp_region_pre {id : Nat} {Q : Exit → Act → World → Prop} {a : Act} {w : World} {l : List Oper} (n : Nat) (hm : P.follows .mixedOrders = true)
    (hB : (Region.noSelect l.toArray && decide (n ≤ l.length) && preB .any l.toArray (l.length - n) n 0 (Array.replicate l.length false)) = true)
    (h : wpList P l.toArray (midQ Q (fun a' w' => wpQuiet P l.toArray (fun x => ∃ u, x = ext w' u) (fun a'' => ∀ x, (∃ u, x = ext w' u) → Q .normal a'' x) (l.drop n) a')) (l.take n) a w.drew) : (Code.region id l.toArray true).wp P Q a w := by
  simp only [Bool.and_eq_true, decide_eq_true_eq] at hB
  obtain ⟨⟨hsel, hn⟩, hB⟩ := hB
  have htl : (l.take n).length = n := by simp; omega
  have hdl : (l.drop n).length = l.length - n := by simp
  refine wp_region_any hm ?_
  have H := wpAny_of_pre (P := P) (md := .any) (ops := l.toArray) (Q := Q) (g := l.length - n) (M := fun a' w' => wpQuiet P l.toArray (fun x => ∃ u, x = ext w' u) (fun a'' => ∀ x, (∃ u, x = ext w' u) → Q .normal a'' x) (l.drop n) a') (fun k listed a' w' hlex hkk hq => by
    have hk : k = n := by have := hkk _ rfl; simp at this; omega
    subst hk
    have hl := wpAnyQ_lex (C := fun x => ∃ u, x = ext w' u) (md := .any) hsel (l.drop k) k listed a' (fun j => by simp [List.getElem?_drop]) (by rw [hdl]; exact hlex) hq
    rw [hdl] at hl
    exact wpAny_of_quiet (Q := fun a'' => ∀ x, (∃ u, x = ext w' u) → Q .normal a'' x) (fun _ x hx h => h x hx) _ _ _ _ ⟨w', ext_of (Kp.refl w')⟩ hl)
    (l.take n) 0 (Array.replicate l.length false) a w.drew (fun j hj => by
      have hj' : j < n := by rw [htl] at hj; exact hj
      simp [hj']) (by rw [htl]; simp; omega) (by rw [htl]; exact hB) h
  rw [htl, show n + (l.length - n) = l.length by omega] at H
  simpa using H
end
end PubFl

set_option linter.all false
namespace PubFl
open Go Go.RowKit

section
variable {P : Program} {ops : Array Oper} {md : Region.Mode}

theorem wpAnyH_of_quiet {S C : World → Prop} {Q : Act → Prop} {Q' : Exit → Act → World → Prop} (hQ : ∀ a w, C w → Q a → Q' .normal a w) (hS : ∀ w, C w → S w) : ∀ (fuel : Nat) (listed : Array Bool) (a : Act) (w : World), C w →
    wpAnyQ P md ops C Q fuel listed a → wpAnyH P md ops Q' S fuel listed a w
  | 0, _, _, _, hw, h => ⟨h.1, hQ _ _ hw h.2⟩
  | fuel + 1, _, _, _, hw, h => ⟨fun h0 => hQ _ _ hw (h.1 h0), fun i hi => wpOp_of_qOp hw (fun a' w' hw' h' => ⟨hS w' hw', wpAnyH_of_quiet hQ hS fuel _ a' w' hw' h'⟩) (h.2 i hi)⟩

def ordB (md : Region.Mode) (ops : Array Oper) (g n : Nat) : List (Nat × Bool) → Array Bool → Bool
  | [], listed => Region.lexFrom md ops g n listed
  | (i, true) :: l, listed => (Region.ready md ops listed == [i]) && ordB md ops g n l (listed.setIfInBounds i true)
  | (i, false) :: l, listed => (Region.ready md ops listed).contains i && (Region.free md ops listed i && ordB md ops g n l (listed.setIfInBounds i true))

def wpOrd (P : Program) (ops : Array Oper) (S : World → Prop) (Q : Exit → Act → World → Prop) (M : Act → World → Prop) : List (Nat × Bool) → Act → World → Prop
  | [], a, w => M a w
  | (i, true) :: l, a, w => match ops[i]? with
    | some o => wpList P ops (midQ Q (fun a' w' => S w' ∧ wpOrd P ops S Q M l a' w')) [o] a w
    | none => False
  | (i, false) :: l, a, w => match ops[i]? with
    | some o => ∃ v, YieldsIf P ops S o v a ∧ wpOrd P ops S Q M l (a.put o.dst v) w
    | none => False

theorem wpOrd_do {S : World → Prop} {Q : Exit → Act → World → Prop} {M : Act → World → Prop} {i : Nat} {l : List (Nat × Bool)} {a : Act} {w : World} {o : Oper} (h0 : ops[i]? = some o)
    (h : wpList P ops (midQ Q (fun a' w' => S w' ∧ wpOrd P ops S Q M l a' w')) [o] a w) : wpOrd P ops S Q M ((i, true) :: l) a w := by
  simp only [wpOrd, h0]; exact h
theorem wpOrd_take {S : World → Prop} {Q : Exit → Act → World → Prop} {M : Act → World → Prop} {i : Nat} {l : List (Nat × Bool)} {a : Act} {w : World} {o : Oper} (h0 : ops[i]? = some o) (v : Value)
    (hy : YieldsIf P ops S o v a) (h : wpOrd P ops S Q M l (a.put o.dst v) w) : wpOrd P ops S Q M ((i, false) :: l) a w := by
  simp only [wpOrd, h0]; exact ⟨v, hy, h⟩
theorem wpOp_of_list {Q : Exit → Act → World → Prop} {K : Act → World → Prop} {i : Nat} {o : Oper} {a : Act} {w : World} (h0 : ops[i]? = some o) (h : wpList P ops (midQ Q K) [o] a w) : wpOp P ops Q i K a w := by
  unfold wpOp
  simp only [h0]
  unfold wpList at h
  split
  · rename_i hw
    rw [if_pos hw] at h
    rcases h with h | ⟨h, h'⟩
    · exact .inl (wp_of_midQ h)
    · exact .inr ⟨h, h'⟩
  · rename_i hw
    rw [if_neg hw] at h
    exact h

theorem wpAnyH_ord {S : World → Prop} {Q : Exit → Act → World → Prop} {g n : Nat} (hsel : Region.noSelect ops = true) (hn : n + g = ops.size) (hQ : ∀ c (a : Act) (d : Option Tmp) (v : Value) w, Q (.panic c) (a.put d v) w → Q (.panic c) a w) (hS : ∀ w u, S w → S (ext w u)) :
    ∀ (l : List (Nat × Bool)) (listed : Array Bool) (a : Act) (w : World), ordB md ops g n l listed = true → S w →
    wpOrd P ops S Q (fun a' w' => wpQuiet P ops (fun x => ∃ u, x = ext w' u) (fun a'' => ∀ x, (∃ u, x = ext w' u) → Q .normal a'' x) (ops.toList.drop n) a') l a w →
    wpAnyH P md ops Q S (l.length + g) listed a w
  | [], listed, a, w, hB, hw, h => by
    have hdl : (ops.toList.drop n).length = g := by simp; omega
    have hl := wpAnyQ_lex (C := fun x => ∃ u, x = ext w u) (md := md) hsel (ops.toList.drop n) n listed a (fun j => by simp [List.getElem?_drop]) (by rw [hdl]; exact hB) h
    rw [hdl] at hl
    have := wpAnyH_of_quiet (S := S) (Q := fun a'' => ∀ x, (∃ u, x = ext w u) → Q .normal a'' x) (fun _ x hx h => h x hx) (fun x ⟨u, hx⟩ => by rw [hx]; exact hS w u hw) g listed a w ⟨w, ext_of (Kp.refl w)⟩ hl
    simpa using this
  | (i, true) :: l, listed, a, w, hB, hw, h => by
    simp only [ordB, Bool.and_eq_true, beq_iff_eq] at hB
    simp only [wpOrd] at h
    cases ho : ops[i]? with
    | none => rw [ho] at h; exact h.elim
    | some o =>
      rw [ho] at h
      rw [show ((i, true) :: l).length + g = (l.length + g) + 1 by simp; omega]
      refine wpAnyH_all hB.1 (by simp) fun j hj => ?_
      have hji : j = i := by simpa using hj
      subst hji
      exact wpOp_mono (fun a' w' h' => ⟨h'.1, wpAnyH_ord hsel hn hQ hS l _ a' w' hB.2 h'.1 h'.2⟩) (wpOp_of_list ho h)
  | (i, false) :: l, listed, a, w, hB, hw, h => by
    simp only [ordB, Bool.and_eq_true] at hB
    simp only [wpOrd] at h
    cases ho : ops[i]? with
    | none => rw [ho] at h; exact h.elim
    | some o =>
      rw [ho] at h
      obtain ⟨v, hy, h⟩ := h
      rw [show ((i, false) :: l).length + g = (l.length + g) + 1 by simp; omega]
      exact wpAnyH_take ho hsel hB.2.1 hB.1 (fun c a w h => hQ c a _ _ w h) hy hw (wpAnyH_ord hsel hn hQ hS l _ _ w hB.2.2 hw h)

theorem wp_region_ord {id : Nat} {Q : Exit → Act → World → Prop} {a : Act} {w : World} {l : List Oper} (n : Nat) (pre : List (Nat × Bool)) (hm : P.follows .mixedOrders = true)
    (hB : (Region.noSelect l.toArray && decide (pre.length = n) && decide (n ≤ l.length) && ordB .any l.toArray (l.length - n) n pre (Array.replicate l.length false)) = true) (hQ : ∀ c (a : Act) (d : Option Tmp) (v : Value) w, Q (.panic c) (a.put d v) w → Q (.panic c) a w)
    (h : wpOrd P l.toArray (fun x => ∃ u, x = ext w u) Q (fun a' w' => wpQuiet P l.toArray (fun x => ∃ u, x = ext w' u) (fun a'' => ∀ x, (∃ u, x = ext w' u) → Q .normal a'' x) (l.drop n) a') pre a w.drew) : (Code.region id l.toArray true).wp P Q a w := by
  simp only [Bool.and_eq_true, decide_eq_true_eq] at hB
  obtain ⟨⟨⟨hsel, hpl⟩, hn⟩, hB⟩ := hB
  refine wp_region_held (S := fun x => ∃ u, x = ext w u) hm ?_
  have := wpAnyH_ord (P := P) (md := .any) (ops := l.toArray) (S := fun x => ∃ u, x = ext w u) (Q := Q) (g := l.length - n) (n := n) hsel (by simp; omega) hQ (fun x u ⟨u0, hx⟩ => ⟨ext x u, by
    subst hx
    exact ext_of (((Kp.refl w).ext u0).ext u)⟩) pre (Array.replicate l.length false) a w.drew hB ⟨w.drew, ext_of (Kp.refl w).drew⟩ (by simpa using h)
  rw [hpl, show n + (l.length - n) = l.length by omega] at this
  simpa using this
end
end PubFl
