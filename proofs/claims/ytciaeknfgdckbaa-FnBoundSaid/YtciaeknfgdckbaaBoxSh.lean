/-
  The box of a shape, as a function; it is the least one around its points.
-/
import Derived.Test.YtciaeknfgdckbaaBndQ
import Derived.Test.YtciaeknfgdckbaaPof
import Derived.Test.YtciaeknfgdckbaaSo
namespace Go.Proofs.Ytciaeknfgdckbaa
open PubFl Go.RowKit

def Box.union (b c : Box) : Box := (((b.extend c.ax c.ay).extend c.bx c.b_y).extend c.ax c.b_y).extend c.bx c.ay
/-- what Bound.Union asks -/
structure UnOk (b c : Box) : Prop where
  e0 : emptyB b.ax b.ay b.bx b.b_y = false
  e : emptyB c.ax c.ay c.bx c.b_y = false
  e1 : emptyB (b.extend c.ax c.ay).ax (b.extend c.ax c.ay).ay (b.extend c.ax c.ay).bx (b.extend c.ax c.ay).b_y = false
  e2 : emptyB ((b.extend c.ax c.ay).extend c.bx c.b_y).ax ((b.extend c.ax c.ay).extend c.bx c.b_y).ay ((b.extend c.ax c.ay).extend c.bx c.b_y).bx ((b.extend c.ax c.ay).extend c.bx c.b_y).b_y = false
  e3 : emptyB (((b.extend c.ax c.ay).extend c.bx c.b_y).extend c.ax c.b_y).ax (((b.extend c.ax c.ay).extend c.bx c.b_y).extend c.ax c.b_y).ay (((b.extend c.ax c.ay).extend c.bx c.b_y).extend c.ax c.b_y).bx (((b.extend c.ax c.ay).extend c.bx c.b_y).extend c.ax c.b_y).b_y = false
theorem Around.un {b c : Box} {ps qs : List (Nat × Nat)} (h : Around b ps) (k : Around c qs) : UnOk b c ∧ Around (b.union c) (ps ++ qs) := by
  obtain ⟨a, e0, e, e1, e2, e3⟩ := h.union k rfl rfl rfl rfl
  exact ⟨⟨e0, e, e1, e2, e3⟩, a⟩
theorem Box.v_eq (b : Box) : b.v = .agg #[.float .f64 b.ax, .float .f64 b.ay, .float .f64 b.bx, .float .f64 b.b_y] := rfl
theorem unionB_c (b c : Box) (w : World) (h : UnOk b c) : Calls Try.prog 109 #[b.v, c.v] w (Ret w (b.union c).v) :=
  union_c b.ax b.ay b.bx b.b_y c.ax c.ay c.bx c.b_y _ _ _ _ w h.e0 h.e rfl h.e1 rfl h.e2 rfl h.e3 rfl

def boxPts (ps : List (Nat × Nat)) : Box := boundTo (ps.getD 0 (0, 0)).1 (ps.getD 0 (0, 0)).2 ps ps.length
def boxTo (f : Nat → Box) : Nat → Box
  | 0 => f 0
  | k + 1 => (boxTo f k).union (f (k + 1))
def boxSh : Nat → Sh → Box
  | 0, _ => ⟨0, 0, 0, 0⟩
  | d + 1, s => if s.kind = 3 then boxPts (s.lists.getD 0 []) else if s.parts = [] then boxTo (fun i => boxPts (s.lists.getD i [])) (s.lists.length - 1) else boxTo (fun i => boxSh d (s.parts.getD i dsh)) (s.parts.length - 1)
def emptyL (l : List (Nat × Nat)) : Bool := decide (l.length = 0)
/-- nothing in it is empty -/
def fullB : Nat → Sh → Bool
  | 0, _ => false
  | d + 1, s => ((List.range s.lists.length).all fun i => decide ((s.lists.getD i []).length ≠ 0)) && ((List.range s.parts.length).all fun i => fullB d (s.parts.getD i dsh)) && decide (0 < s.lists.length + s.parts.length)

theorem boxTo_around {f : Nat → Box} {p : Nat → List (Nat × Nat)} : ∀ {k : Nat}, (∀ i, i ≤ k → Around (f i) (p i)) → Around (boxTo f k) (catTo p (k + 1))
  | 0, h => by simpa [boxTo, catTo] using h 0 (Nat.le_refl _)
  | k + 1, h => by
    have := ((boxTo_around (k := k) fun i hi => h i (by omega)).un (h (k + 1) (Nat.le_refl _))).2
    exact this
theorem boxTo_un {f : Nat → Box} {p : Nat → List (Nat × Nat)} {k : Nat} (h : ∀ i, i ≤ k + 1 → Around (f i) (p i)) : UnOk (boxTo f k) (f (k + 1)) :=
  ((boxTo_around (k := k) fun i hi => h i (by omega)).un (h (k + 1) (Nat.le_refl _))).1
theorem fin_of {ps : List (Nat × Nat)} (hb : Bits ps) (h : allPts finB ps = true) : FinPts ps := fun p hp => by
  obtain ⟨i, hi, rfl⟩ := List.getElem_of_mem hp
  have hf : (finB (ps.getD i (0, 0)).1 && finB (ps.getD i (0, 0)).2) = true := all_to (f := fun i => finB (ps.getD i (0, 0)).1 && finB (ps.getD i (0, 0)).2) h i hi
  obtain ⟨b1, b2⟩ := hb i hi
  rw [show ps.getD i (0, 0) = ps[i]'hi by rw [List.getD_eq_getElem?_getD, List.getElem?_eq_getElem hi]; rfl] at hf
  simp only [Bool.and_eq_true] at hf
  exact ⟨fin_isV b1 hf.1, fin_isV b2 hf.2⟩
theorem boxPts_around {ps : List (Nat × Nat)} (hf : FinPts ps) (hpos : 0 < ps.length) : Around (boxPts ps) ps := by
  unfold boxPts
  refine bound_around hf hpos ?_
  rw [List.getD_eq_getElem?_getD, List.getElem?_eq_getElem hpos]; rfl
theorem catTo_one (f : Nat → List (Nat × Nat)) : catTo f 1 = f 0 := by simp [catTo]
theorem catTo_congr {f g : Nat → List (Nat × Nat)} : ∀ {n : Nat}, (∀ i, i < n → f i = g i) → catTo f n = catTo g n
  | 0, _ => rfl
  | n + 1, h => by
    unfold catTo
    rw [catTo_congr (n := n) fun i hi => h i (by omega), h n (by omega)]
theorem catTo_first {f : Nat → List (Nat × Nat)} : ∀ {n : Nat}, (∀ i, 0 < i → f i = []) → catTo f (n + 1) = f 0
  | 0, _ => catTo_one f
  | n + 1, h => by
    unfold catTo
    rw [catTo_first (n := n) h, h (n + 1) (by omega), List.append_nil]
theorem getD_mem {α : Type} {l : List α} {i : Nat} {z : α} (h : i < l.length) : l.getD i z ∈ l := by
  rw [List.getD_eq_getElem?_getD, List.getElem?_eq_getElem h]; exact List.getElem_mem h
/-- finite words, 64 bits each -/
def FinSh : Nat → Sh → Prop
  | 0, _ => True
  | d + 1, s => (∀ l ∈ s.lists, FinPts l) ∧ ∀ p ∈ s.parts, FinSh d p
theorem finSh_of : ∀ {d : Nat} {s : Sh}, BitsSh d s → allSh finB d s = true → FinSh d s
  | 0, _, _, _ => trivial
  | d + 1, s, hb, h => by
    unfold allSh at h
    simp only [Bool.and_eq_true] at h
    refine ⟨fun l hl => ?_, fun p hp => ?_⟩
    · obtain ⟨i, hi, rfl⟩ := List.getElem_of_mem hl
      have : allPts finB (s.lists.getD i []) = true := all_to (f := fun i => allPts finB (s.lists.getD i [])) h.1 i hi
      rw [getD_ls _ _ hi] at this
      exact fin_of (hb.1 _ (List.getElem_mem hi)) this
    · obtain ⟨i, hi, rfl⟩ := List.getElem_of_mem hp
      have : allSh finB d (s.parts.getD i dsh) = true := all_to (f := fun i => allSh finB d (s.parts.getD i dsh)) h.2 i hi
      rw [getD_sh _ _ hi] at this
      exact finSh_of (hb.2 _ (List.getElem_mem hi)) this
theorem full_parts {d : Nat} {s : Sh} (h : fullB (d + 1) s = true) : (∀ i, i < s.lists.length → 0 < (s.lists.getD i []).length) ∧ (∀ i, i < s.parts.length → fullB d (s.parts.getD i dsh) = true) ∧ 0 < s.lists.length + s.parts.length := by
  unfold fullB at h
  simp only [Bool.and_eq_true, decide_eq_true_eq] at h
  refine ⟨fun i hi => ?_, fun i hi => all_to h.1.2 i hi, h.2⟩
  have := all_to h.1.1 i hi
  simp only [decide_eq_true_eq] at this
  omega
/-- lists and parts are not both there -/
theorem form_one {d : Nat} {s : Sh} (h : cntOk (d + 1) s = true) : (s.kind ≤ 5 ∧ s.parts = []) ∨ (6 ≤ s.kind ∧ s.lists = []) := by
  obtain ⟨h1, _, h3⟩ := cntOk_parts h
  obtain ⟨k1, k2, _, _⟩ := shHead_spec h1
  rcases (show s.kind = 1 ∨ s.kind = 2 ∨ s.kind = 3 ∨ s.kind = 4 ∨ s.kind = 5 ∨ s.kind = 6 ∨ s.kind = 7 by omega) with hK | hK | hK | hK | hK | hK | hK
  · rw [formB_1 hK] at h3
    simp only [Bool.and_eq_true, decide_eq_true_eq] at h3
    exact .inl ⟨by omega, List.eq_nil_of_length_eq_zero h3.2⟩
  · rw [formB_2 hK] at h3
    simp only [Bool.and_eq_true, decide_eq_true_eq] at h3
    exact .inl ⟨by omega, List.eq_nil_of_length_eq_zero h3.2⟩
  · rw [formB_3 hK] at h3
    simp only [decide_eq_true_eq] at h3
    exact .inl ⟨by omega, List.eq_nil_of_length_eq_zero h3⟩
  · rw [formB_4 hK] at h3
    simp only [Bool.and_eq_true, decide_eq_true_eq] at h3
    exact .inl ⟨by omega, List.eq_nil_of_length_eq_zero h3.2⟩
  · rw [formB_5 hK] at h3
    simp only [decide_eq_true_eq] at h3
    exact .inl ⟨by omega, List.eq_nil_of_length_eq_zero h3⟩
  · rw [formB_6 hK] at h3
    simp only [decide_eq_true_eq] at h3
    exact .inr ⟨by omega, List.eq_nil_of_length_eq_zero h3⟩
  · rw [formB_7 hK] at h3
    simp only [decide_eq_true_eq] at h3
    exact .inr ⟨by omega, List.eq_nil_of_length_eq_zero h3⟩
theorem box_around : ∀ (d : Nat) (s : Sh), cntOk d s = true → FinSh d s → fullB d s = true → Around (boxSh d s) (ptsSh true d s)
  | 0, _, h, _, _ => by cases h
  | d + 1, s, hok, hf, hfull => by
    obtain ⟨f1, f2, f3⟩ := full_parts hfull
    have hpa := (cntOk_parts hok).2.1
    unfold boxSh ptsSh
    rcases form_one hok with ⟨hk, hp⟩ | ⟨hk, hl⟩
    · rw [hp]
      rw [hp] at f3
      have hl0 : 0 < s.lists.length := by simpa using f3
      simp only [List.length_nil, if_true]
      rw [show catTo (fun i => ptsSh true d (([] : List Sh).getD i dsh)) 0 = [] from rfl, List.append_nil]
      obtain ⟨n, hn⟩ : ∃ n, s.lists.length = n + 1 := ⟨s.lists.length - 1, by omega⟩
      by_cases h3 : s.kind = 3
      · rw [if_pos h3, hn, catTo_first fun i hi => by unfold lstOf; rw [if_pos ⟨rfl, h3, by omega⟩]]
        have e : lstOf true s 0 = s.lists.getD 0 [] := by unfold lstOf; rw [if_neg (by simp)]
        rw [e]
        exact boxPts_around (hf.1 _ (getD_mem hl0)) (f1 0 hl0)
      · rw [if_neg h3, hn, Nat.add_sub_cancel]
        have e : ∀ i, i < n + 1 → lstOf true s i = s.lists.getD i [] := fun i _ => by unfold lstOf; rw [if_neg (by simp [h3])]
        rw [catTo_congr e]
        exact boxTo_around fun i hi => boxPts_around (hf.1 _ (getD_mem (by omega))) (f1 i (by omega))
    · rw [hl]
      rw [hl] at f3
      have hp0 : 0 < s.parts.length := by simpa using f3
      have hpn : s.parts ≠ [] := fun e => by rw [e] at hp0; simp at hp0
      rw [if_neg (by omega), if_neg hpn]
      obtain ⟨n, hn⟩ : ∃ n, s.parts.length = n + 1 := ⟨s.parts.length - 1, by omega⟩
      rw [show catTo (lstOf true s) (([] : List (List (Nat × Nat))).length) = [] from rfl, List.nil_append, hn, Nat.add_sub_cancel]
      exact boxTo_around fun i hi => box_around d _ (hpa _ (getD_mem (by omega))).1 (hf.2 _ (getD_mem (by omega))) (f2 i (by omega))
theorem catTo_mem {f : Nat → List (Nat × Nat)} {p : Nat × Nat} : ∀ {n : Nat}, p ∈ catTo f n → ∃ i, i < n ∧ p ∈ f i
  | 0, h => by cases h
  | n + 1, h => by
    unfold catTo at h
    rcases List.mem_append.1 h with h | h
    · obtain ⟨i, hi, hp⟩ := catTo_mem h
      exact ⟨i, by omega, hp⟩
    · exact ⟨n, by omega, h⟩
theorem finPts_sh {o : Bool} : ∀ {d : Nat} {s : Sh}, FinSh d s → FinPts (ptsSh o d s)
  | 0, _, _ => fun p hp => by cases hp
  | d + 1, s, h => fun p hp => by
    unfold ptsSh at hp
    rcases List.mem_append.1 hp with hp | hp
    · obtain ⟨i, hi, hp⟩ := catTo_mem hp
      unfold lstOf at hp
      split at hp
      · cases hp
      · exact h.1 _ (getD_mem hi) p hp
    · obtain ⟨i, hi, hp⟩ := catTo_mem hp
      exact finPts_sh (h.2 _ (getD_mem hi)) p hp
theorem catTo_le {f g : Nat → List (Nat × Nat)} : ∀ {n : Nat}, (∀ i, i < n → (f i).length ≤ (g i).length) → (catTo f n).length ≤ (catTo g n).length
  | 0, _ => Nat.le_refl _
  | n + 1, h => by
    unfold catTo
    rw [List.length_append, List.length_append]
    exact Nat.add_le_add (catTo_le fun i hi => h i (by omega)) (h n (by omega))
theorem outer_le : ∀ {d : Nat} {s : Sh}, (ptsSh true d s).length ≤ (ptsSh false d s).length
  | 0, _ => Nat.le_refl _
  | d + 1, s => by
    unfold ptsSh
    rw [List.length_append, List.length_append]
    refine Nat.add_le_add (catTo_le fun i _ => ?_) (catTo_le fun i _ => outer_le)
    unfold lstOf
    split
    · simp
    · rw [if_neg (by simp)]; exact Nat.le_refl _
theorem boxPts_one {x y : Nat} {p q : Rat} (hx : IsV x p) (hy : IsV y q) : boxPts [(x, y)] = ⟨x, y, x, y⟩ := by
  have h : hasB x y x y x y = true := by
    unfold hasB
    rw [ltF_isV hy hy, ltF_isV hx hx]
    simp
  show Box.extend ⟨x, y, x, y⟩ x y = _
  unfold Box.extend
  rw [if_pos h]
end Go.Proofs.Ytciaeknfgdckbaa
