/-
  Boxes around points: the least ones. The box by the package (Extend, Union) and that by the specification are equal.
-/
import Derived.Test.YtciaeknfgdckbaaBnd
namespace Go.Proofs.Ytciaeknfgdckbaa
open PubFl Go.RowKit

def LoQ (zs : List Nat) (x : Rat) : Prop := (∃ z ∈ zs, IsV z x) ∧ ∀ z ∈ zs, ∃ q, IsV z q ∧ x ≤ q
def HiQ (zs : List Nat) (x : Rat) : Prop := (∃ z ∈ zs, IsV z x) ∧ ∀ z ∈ zs, ∃ q, IsV z q ∧ q ≤ x
theorem LoQ.unique {zs : List Nat} {x y : Rat} (h : LoQ zs x) (k : LoQ zs y) : x = y := by
  obtain ⟨⟨z, hz, hx⟩, h2⟩ := h
  obtain ⟨⟨u, hu, hy⟩, k2⟩ := k
  obtain ⟨q, hq, l1⟩ := h2 u hu
  obtain ⟨r, hr, l2⟩ := k2 z hz
  rw [isV_unique hq hy] at l1
  rw [isV_unique hr hx] at l2
  grind
theorem HiQ.unique {zs : List Nat} {x y : Rat} (h : HiQ zs x) (k : HiQ zs y) : x = y := by
  obtain ⟨⟨z, hz, hx⟩, h2⟩ := h
  obtain ⟨⟨u, hu, hy⟩, k2⟩ := k
  obtain ⟨q, hq, l1⟩ := h2 u hu
  obtain ⟨r, hr, l2⟩ := k2 z hz
  rw [isV_unique hq hy] at l1
  rw [isV_unique hr hx] at l2
  grind
theorem LoQ.append {us vs : List Nat} {x y : Rat} (h : LoQ us x) (k : LoQ vs y) : LoQ (us ++ vs) (mnQ x y) := by
  obtain ⟨⟨z, hz, hx⟩, h2⟩ := h
  obtain ⟨⟨u, hu, hy⟩, k2⟩ := k
  refine ⟨?_, fun v hv => ?_⟩
  · unfold mnQ
    split
    · exact ⟨z, List.mem_append_left _ hz, hx⟩
    · exact ⟨u, List.mem_append_right _ hu, hy⟩
  · rcases List.mem_append.1 hv with hv | hv
    · obtain ⟨q, hq, l⟩ := h2 v hv
      exact ⟨q, hq, by have := mnQ_l x y; grind⟩
    · obtain ⟨q, hq, l⟩ := k2 v hv
      exact ⟨q, hq, by have := mnQ_r x y; grind⟩
theorem HiQ.append {us vs : List Nat} {x y : Rat} (h : HiQ us x) (k : HiQ vs y) : HiQ (us ++ vs) (mxQ x y) := by
  obtain ⟨⟨z, hz, hx⟩, h2⟩ := h
  obtain ⟨⟨u, hu, hy⟩, k2⟩ := k
  refine ⟨?_, fun v hv => ?_⟩
  · unfold mxQ
    split
    · exact ⟨z, List.mem_append_left _ hz, hx⟩
    · exact ⟨u, List.mem_append_right _ hu, hy⟩
  · rcases List.mem_append.1 hv with hv | hv
    · obtain ⟨q, hq, l⟩ := h2 v hv
      exact ⟨q, hq, by have := mxQ_l x y; grind⟩
    · obtain ⟨q, hq, l⟩ := k2 v hv
      exact ⟨q, hq, by have := mxQ_r x y; grind⟩
theorem LoQ.one {z : Nat} {x : Rat} (h : IsV z x) : LoQ [z] x := ⟨⟨z, by simp, h⟩, fun u hu => by
  obtain rfl := List.mem_singleton.1 hu
  exact ⟨x, h, Rat.le_refl⟩⟩
theorem HiQ.one {z : Nat} {x : Rat} (h : IsV z x) : HiQ [z] x := ⟨⟨z, by simp, h⟩, fun u hu => by
  obtain rfl := List.mem_singleton.1 hu
  exact ⟨x, h, Rat.le_refl⟩⟩
theorem LoQ.congr {us vs : List Nat} {x : Rat} (h : LoQ us x) (k : ∀ z, z ∈ us ↔ z ∈ vs) : LoQ vs x := by
  obtain ⟨⟨z, hz, hx⟩, h2⟩ := h
  exact ⟨⟨z, (k z).1 hz, hx⟩, fun u hu => h2 u ((k u).2 hu)⟩
theorem HiQ.congr {us vs : List Nat} {x : Rat} (h : HiQ us x) (k : ∀ z, z ∈ us ↔ z ∈ vs) : HiQ vs x := by
  obtain ⟨⟨z, hz, hx⟩, h2⟩ := h
  exact ⟨⟨z, (k z).1 hz, hx⟩, fun u hu => h2 u ((k u).2 hu)⟩
theorem LoQ.hi_le {zs : List Nat} {x y : Rat} (h : LoQ zs x) (k : HiQ zs y) : x ≤ y := by
  obtain ⟨⟨z, hz, hx⟩, h2⟩ := h
  obtain ⟨q, hq, l⟩ := k.2 z hz
  rw [isV_unique hq hx] at l
  exact l

/-- a box is the least one around points -/
def Around (b : Box) (ps : List (Nat × Nat)) : Prop := ∃ x y z t, BxQ b x y z t ∧ LoQ (ps.map (·.1)) x ∧ LoQ (ps.map (·.2)) y ∧ HiQ (ps.map (·.1)) z ∧ HiQ (ps.map (·.2)) t
theorem Around.nonempty {b : Box} {ps : List (Nat × Nat)} (h : Around b ps) : emptyB b.ax b.ay b.bx b.b_y = false := by
  obtain ⟨_, _, _, _, h, _⟩ := h
  exact h.nonempty
theorem Around.one {x y : Nat} {p q : Rat} (hx : IsV x p) (hy : IsV y q) : Around ⟨x, y, x, y⟩ [(x, y)] :=
  ⟨p, q, p, q, ⟨hx, hy, hx, hy, Rat.le_refl, Rat.le_refl⟩, .one hx, .one hy, .one hx, .one hy⟩
theorem Around.congr {b : Box} {ps qs : List (Nat × Nat)} (h : Around b ps) (k : ∀ p, p ∈ ps ↔ p ∈ qs) : Around b qs := by
  have h1 : ∀ z, z ∈ ps.map (·.1) ↔ z ∈ qs.map (·.1) := fun z => by simp only [List.mem_map]; exact exists_congr fun p => and_congr_left' (k p)
  have h2 : ∀ z, z ∈ ps.map (·.2) ↔ z ∈ qs.map (·.2) := fun z => by simp only [List.mem_map]; exact exists_congr fun p => and_congr_left' (k p)
  obtain ⟨x, y, z, t, h, a, b, c, d⟩ := h
  exact ⟨x, y, z, t, h, a.congr h1, b.congr h2, c.congr h1, d.congr h2⟩
theorem Around.extend {b : Box} {ps : List (Nat × Nat)} (h : Around b ps) {px py : Nat} {p q : Rat} (hp : IsV px p) (hq : IsV py q) : Around (b.extend px py) (ps ++ [(px, py)]) := by
  obtain ⟨x, y, z, t, h, a, b, c, d⟩ := h
  refine ⟨_, _, _, _, h.extend hp hq, ?_, ?_, ?_, ?_⟩
  · rw [List.map_append]; exact a.append (.one hp)
  · rw [List.map_append]; exact b.append (.one hq)
  · rw [List.map_append]; exact c.append (.one hp)
  · rw [List.map_append]; exact d.append (.one hq)
theorem Around.union {b c b1 b2 b3 b4 : Box} {ps qs : List (Nat × Nat)} (h : Around b ps) (k : Around c qs) (h1 : b.extend c.ax c.ay = b1) (h2 : b1.extend c.bx c.b_y = b2) (h3 : b2.extend c.ax c.b_y = b3) (h4 : b3.extend c.bx c.ay = b4) :
    Around b4 (ps ++ qs) ∧ emptyB b.ax b.ay b.bx b.b_y = false ∧ emptyB c.ax c.ay c.bx c.b_y = false ∧ emptyB b1.ax b1.ay b1.bx b1.b_y = false ∧ emptyB b2.ax b2.ay b2.bx b2.b_y = false ∧ emptyB b3.ax b3.ay b3.bx b3.b_y = false := by
  have n0 := h.nonempty
  have n1 := k.nonempty
  obtain ⟨x, y, z, t, h, a1, a2, a3, a4⟩ := h
  obtain ⟨x', y', z', t', k, c1, c2, c3, c4⟩ := k
  have e1 := h.extend k.ax k.ay
  rw [h1] at e1
  have e2 := e1.extend k.bx k.b_y
  rw [h2] at e2
  have e3 := e2.extend k.ax k.b_y
  rw [h3] at e3
  have e4 := e3.extend k.bx k.ay
  rw [h4] at e4
  refine ⟨⟨_, _, _, _, e4, ?_, ?_, ?_, ?_⟩, n0, n1, e1.nonempty, e2.nonempty, e3.nonempty⟩
  · have := a1.append c1
    have l := k.lx
    rw [List.map_append, show mnQ (mnQ (mnQ (mnQ x x') z') x') z' = mnQ x x' by unfold mnQ; grind]
    exact this
  · have := a2.append c2
    have l := k.ly
    rw [List.map_append, show mnQ (mnQ (mnQ (mnQ y y') t') t') y' = mnQ y y' by unfold mnQ; grind]
    exact this
  · have := a3.append c3
    have l := k.lx
    rw [List.map_append, show mxQ (mxQ (mxQ (mxQ z x') z') x') z' = mxQ z z' by unfold mxQ; grind]
    exact this
  · have := a4.append c4
    have l := k.ly
    rw [List.map_append, show mxQ (mxQ (mxQ (mxQ t y') t') t') y' = mxQ t t' by unfold mxQ; grind]
    exact this
theorem around_bound {ps : List (Nat × Nat)} (hf : FinPts ps) {x0 y0 : Nat} {p q : Rat} (hx : IsV x0 p) (hy : IsV y0 q) : ∀ k, k ≤ ps.length → Around (boundTo x0 y0 ps k) ((x0, y0) :: ps.take k)
  | 0, _ => by
    have := Around.one hx hy
    simpa [boundTo] using this
  | k + 1, h => by
    obtain ⟨⟨_, v0⟩, _, v1⟩ := hf _ (List.getElem_mem (show k < ps.length by omega))
    rw [boundTo_succ _ _ _ _ (by omega), List.take_succ_eq_append_getElem (by omega)]
    exact (around_bound hf hx hy k (by omega)).extend v0 v1
/-- what the package's box of points is -/
theorem bound_around {ps : List (Nat × Nat)} (hf : FinPts ps) (hpos : 0 < ps.length) {x0 y0 : Nat} (h0 : ps[0]'hpos = (x0, y0)) : Around (boundTo x0 y0 ps ps.length) ps := by
  obtain ⟨⟨_, v0⟩, _, v1⟩ := hf _ (List.getElem_mem hpos)
  rw [h0] at v0 v1
  refine (around_bound hf v0 v1 ps.length (Nat.le_refl _)).congr fun p => ?_
  rw [List.take_of_length_le (Nat.le_refl _)]
  refine ⟨fun h => ?_, fun h => List.mem_cons_of_mem _ h⟩
  rcases List.mem_cons.1 h with rfl | h
  · rw [← h0]; exact List.getElem_mem hpos
  · exact h
/-- .. and the specification's -/
theorem low_around {ps : List (Nat × Nat)} : ∀ (qs : List (Nat × Nat)) (l : Nat × Nat) (h : Nat × Nat), FinPts qs → Around ⟨l.1, l.2, h.1, h.2⟩ ps → Around ⟨(lowF l qs).1, (lowF l qs).2, (highF h qs).1, (highF h qs).2⟩ (ps ++ qs)
  | [], _, _, _, ha => by simpa [lowF, highF] using ha
  | q :: qs, l, h, hf, ha => by
    obtain ⟨⟨p, v0⟩, r, v1⟩ := hf q (by simp)
    have := low_around (ps := ps ++ [q]) qs (minF l.1 q.1, minF l.2 q.2) (maxF h.1 q.1, maxF h.2 q.2) (fun p hp => hf p (List.mem_cons_of_mem _ hp)) (by
      obtain ⟨x, y, z, t, h, a, b, c, d⟩ := ha
      refine ⟨_, _, _, _, ⟨minF_isV h.ax v0, minF_isV h.ay v1, maxF_isV h.bx v0, maxF_isV h.b_y v1, ?_, ?_⟩, ?_, ?_, ?_, ?_⟩
      · have := mnQ_l x p
        have := mxQ_l z p
        have := h.lx
        show mnQ x p ≤ mxQ z p
        grind
      · have := mnQ_l y r
        have := mxQ_l t r
        have := h.ly
        show mnQ y r ≤ mxQ t r
        grind
      · rw [List.map_append]; exact a.append (.one v0)
      · rw [List.map_append]; exact b.append (.one v1)
      · rw [List.map_append]; exact c.append (.one v0)
      · rw [List.map_append]; exact d.append (.one v1))
    have e : lowF l (q :: qs) = lowF (minF l.1 q.1, minF l.2 q.2) qs := rfl
    have e' : highF h (q :: qs) = highF (maxF h.1 q.1, maxF h.2 q.2) qs := rfl
    rw [e, e']
    rw [List.append_assoc] at this
    exact this
theorem boxOf_around {ps : List (Nat × Nat)} (hf : FinPts ps) (hpos : 0 < ps.length) {x0 y0 : Nat} (h0 : ps[0]'hpos = (x0, y0)) : Around ⟨(lowF (x0, y0) ps).1, (lowF (x0, y0) ps).2, (highF (x0, y0) ps).1, (highF (x0, y0) ps).2⟩ ps := by
  obtain ⟨⟨_, v0⟩, _, v1⟩ := hf _ (List.getElem_mem hpos)
  rw [h0] at v0 v1
  refine (low_around (ps := [(x0, y0)]) ps (x0, y0) (x0, y0) hf (Around.one v0 v1)).congr fun p => ?_
  refine ⟨fun h => ?_, fun h => List.mem_cons_of_mem _ h⟩
  rcases List.mem_cons.1 h with rfl | h
  · rw [← h0]; exact List.getElem_mem hpos
  · exact h
theorem Around.eq {b c : Box} {ps : List (Nat × Nat)} (h : Around b ps) (k : Around c ps) : eqF b.ax c.ax = true ∧ eqF b.ay c.ay = true ∧ eqF b.bx c.bx = true ∧ eqF b.b_y c.b_y = true := by
  obtain ⟨x, y, z, t, h, a1, a2, a3, a4⟩ := h
  obtain ⟨x', y', z', t', k, c1, c2, c3, c4⟩ := k
  rw [eqF_isV h.ax k.ax, eqF_isV h.ay k.ay, eqF_isV h.bx k.bx, eqF_isV h.b_y k.b_y, a1.unique c1, a2.unique c2, a3.unique c3, a4.unique c4]
  simp
end Go.Proofs.Ytciaeknfgdckbaa
