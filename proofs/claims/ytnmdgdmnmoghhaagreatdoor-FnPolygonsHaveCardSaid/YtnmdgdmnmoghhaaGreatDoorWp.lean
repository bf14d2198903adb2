/-
  A region that draws its order, whose first operations can come in one order alone; the rest reads old memory and calls functions that keep it: the first ones walked as a plain row, the rest once, in the order of the text.
-/
import Derived.Test.YtnmdgdmnmoghhaaGreatDoorWk
import Derived.StillTail
namespace PubFl
open Go Go.RowKit

section
variable {P : Program} {ops : Array Oper} {md : Region.Mode}

def midQ (Q : Exit → Act → World → Prop) (M : Act → World → Prop) : Exit → Act → World → Prop
  | .normal, a, w => M a w
  | e, a, w => Q e a w
theorem midQ_normal (Q : Exit → Act → World → Prop) (M : Act → World → Prop) (a : Act) (w : World) : midQ Q M .normal a w = M a w := rfl

theorem wp_of_midQ {Q : Exit → Act → World → Prop} {M K : Act → World → Prop} {o : Oper} {a : Act} {w : World} (h : o.wp P a w K (midQ Q M)) : o.wp P a w K Q := by
  unfold Oper.wp at *
  generalize (execOp a.eval o).run P w = r at *
  cases r with
  | ok n w' => cases n <;> exact h
  | halt s w' => cases s <;> exact h

def preB (md : Region.Mode) (ops : Array Oper) (g : Nat) : Nat → Nat → Array Bool → Bool
  | 0, k, listed => Region.lexFrom md ops g k listed
  | f + 1, k, listed => (Region.ready md ops listed == [k]) && preB md ops g f (k + 1) (listed.setIfInBounds k true)

theorem wpAny_of_pre {Q : Exit → Act → World → Prop} {M : Act → World → Prop} {g : Nat} (hM : ∀ k listed a w, Region.lexFrom md ops g k listed = true → (∀ j, k + g = j → j = ops.size) → M a w → wpAny P md ops Q g listed a w) :
    ∀ (l : List Oper) (k : Nat) (listed : Array Bool) (a : Act) (w : World), (∀ j, j < l.length → l[j]? = ops[k + j]?) → k + l.length + g = ops.size → preB md ops g l.length k listed = true → wpList P ops (midQ Q M) l a w →
      wpAny P md ops Q (l.length + g) listed a w
  | [], k, listed, a, w, _, hk, hB, h => by
    have := hM k listed a w hB (fun j hj => by simp at hk; omega) h
    simpa using this
  | o :: l, k, listed, a, w, hl, hk, hB, h => by
    have h0 : ops[k]? = some o := by simpa using (hl 0 (by simp)).symm
    simp only [List.length_cons, preB, Bool.and_eq_true, beq_iff_eq] at hB
    simp only [List.length_cons] at hk ⊢
    rw [show l.length + 1 + g = (l.length + g) + 1 by omega]
    refine ⟨fun h1 => (by rw [hB.1] at h1; cases h1), fun i hi => ?_⟩
    rw [hB.1] at hi
    have hik : i = k := by simpa using hi
    subst hik
    have hw : wpOp P ops Q i (wpList P ops (midQ Q M) l) a w := by
      unfold wpOp
      simp only [h0]
      unfold wpList at h
      split
      · rename_i hw
        rw [if_pos hw] at h
        rcases h with h | ⟨h, h'⟩
        · exact .inl (wp_of_midQ h)
        · exact .inr ⟨h, h'⟩
      · rename_i hw
        rw [if_neg hw] at h
        exact h
    exact wpOp_mono (fun a' w' h' => wpAny_of_pre hM l (i + 1) _ a' w' (fun j hj => by have := hl (j + 1) (by simp; omega); simpa [Nat.add_assoc, Nat.add_comm 1 j] using this) (by omega) hB.2 h') hw

theorem wp_region_pre {id : Nat} {Q : Exit → Act → World → Prop} {a : Act} {w : World} {l : List Oper} (n : Nat) (hm : P.follows .mixedOrders = true)
    (hB : (Region.noSelect l.toArray && decide (n ≤ l.length) && preB .any l.toArray (l.length - n) n 0 (Array.replicate l.length false)) = true)
    (h : wpList P l.toArray (midQ Q (fun a' w' => wpQuiet P l.toArray (fun x => ∃ u, x = ext w' u) (fun a'' => ∀ x, (∃ u, x = ext w' u) → Q .normal a'' x) (l.drop n) a')) (l.take n) a w.drew) : (Code.region id l.toArray true).wp P Q a w := by
  simp only [Bool.and_eq_true, decide_eq_true_eq] at hB
  obtain ⟨⟨hsel, hn⟩, hB⟩ := hB
  have htl : (l.take n).length = n := by simp; omega
  have hdl : (l.drop n).length = l.length - n := by simp
  refine wp_region_any hm ?_
  have H := wpAny_of_pre (P := P) (md := .any) (ops := l.toArray) (Q := Q) (g := l.length - n) (M := fun a' w' => wpQuiet P l.toArray (fun x => ∃ u, x = ext w' u) (fun a'' => ∀ x, (∃ u, x = ext w' u) → Q .normal a'' x) (l.drop n) a') (fun k listed a' w' hlex hkk hq => by
    have hk : k = n := by have := hkk _ rfl; simp at this; omega
    subst hk
    have hl := wpAnyQ_lex (C := fun x => ∃ u, x = ext w' u) (md := .any) hsel (l.drop k) k listed a' (fun j => by simp [List.getElem?_drop]) (by rw [hdl]; exact hlex) hq
    rw [hdl] at hl
    exact wpAny_of_quiet (Q := fun a'' => ∀ x, (∃ u, x = ext w' u) → Q .normal a'' x) (fun _ x hx h => h x hx) _ _ _ _ ⟨w', ext_of (Kp.refl w')⟩ hl)
    (l.take n) 0 (Array.replicate l.length false) a w.drew (fun j hj => by
      have hj' : j < n := by rw [htl] at hj; exact hj
      simp [hj']) (by rw [htl]; simp; omega) (by rw [htl]; exact hB) h
  rw [htl, show n + (l.length - n) = l.length by omega] at H
  simpa using H
end
end PubFl
