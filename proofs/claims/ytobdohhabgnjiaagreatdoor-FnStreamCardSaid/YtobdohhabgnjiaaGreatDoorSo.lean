/-
  Shapes that a call makes, in memory of their own.
-/
import Derived.Test.YtobdohhabgnjiaaGreatDoorGeo3
set_option linter.all false
namespace Go.Proofs.YtobdohhabgnjiaaGreatDoor
open PubFl Go.RowKit

attribute [local go_sem] cell_ext frozen_ext ext_setCell cell_store size_ext_eq lt_p0 lt_p1 lt_p2 lt_p3 lt_p4 lt_p5 lt_p6 lt_p7 lt_p8 lt_p9 lt_p10 lt_p11 lt_p12 lt_p13 lt_p14 lt_p15 lt_p16 lt_p17 lt_p18 lt_p19 lt_p20 lt_p21 lt_p22 lt_p23 lt_p24 lt_p25 lt_p26 lt_p27 lt_p28 lt_p29 lt_p30 lt_p31 lt_p32 lt_q1 lt_q2 lt_q3 lt_q4 lt_q5 lt_q6 lt_q7 lt_q8 lt_q9 lt_q10 lt_q11 lt_q12 lt_q13 lt_q14 lt_q15 lt_q16 lt_q17 lt_q18 lt_q19 lt_q20 lt_q21 lt_q22 lt_q23 lt_q24 lt_q25 lt_q26 lt_q27 lt_q28 lt_q29 lt_q30 lt_q31 lt_q32 run_fop run_store_float
attribute [local go_sem high] cmp_eql cmp_neq cmp_lss cmp_leq cmp_gtr cmp_geq

/-- words of 64 bits, all of them -/
def BitsSh : Nat → Sh → Prop
  | 0, _ => True
  | d + 1, s => (∀ l ∈ s.lists, Bits l) ∧ ∀ p ∈ s.parts, BitsSh d p
theorem ShIn.bits {w : World} : ∀ {d : Nat} {lv pv : Value} {s : Sh}, ShIn d w lv pv s → BitsSh d s
  | 0, _, _, _, _ => trivial
  | d + 1, lv, pv, s, h => by
    obtain ⟨⟨a, c, _, _, hl⟩, _, _, _, _, hp⟩ := h
    refine ⟨fun l hm => ?_, fun p hm => ?_⟩
    · obtain ⟨i, hi, rfl⟩ := List.getElem_of_mem hm
      rcases hl with hl | ⟨b, off, _, _, hl⟩
      · exfalso; clear hm; rw [hl] at hi; simp at hi
      · obtain ⟨x, _, _, _, _, _, _, hb⟩ := hl i hi
        exact hb
    · obtain ⟨i, hi, rfl⟩ := List.getElem_of_mem hm
      rcases hp with hp | ⟨b, off, _, _, hp⟩
      · exfalso; clear hm; rw [hp] at hi; simp at hi
      · obtain ⟨_, _, _, _, _, h4⟩ := hp i hi
        exact ShIn.bits h4

/-- lists of points in those blocks; nil where there are none -/
def ListsN (ls : List (List (Nat × Nat))) (lo hi : Nat) (w : World) (v : Value) : Prop := (ls = [] ∧ v = .slice none 0 0) ∨ ListsB ls lo hi w v
theorem ListsN.keep {ls : List (List (Nat × Nat))} {lo hi : Nat} {w w' : World} {v : Value} (h : ListsN ls lo hi w v) (a : Agree lo hi w w') (hs : w.heap.size ≤ w'.heap.size) : ListsN ls lo hi w' v :=
  h.imp id fun h => RowB.keep (keep_list _) h a hs
theorem ListsN.mono {ls : List (List (Nat × Nat))} {lo hi l h : Nat} {w : World} {v : Value} (p : ListsN ls l h w v) (h1 : lo ≤ l) (h2 : h ≤ hi) : ListsN ls lo hi w v := p.imp id fun p => RowB.mono p h1 h2
theorem ListsN.liss {ls : List (List (Nat × Nat))} {lo hi : Nat} {w : World} {v : Value} (h : ListsN ls lo hi w v) (hb : ∀ l ∈ ls, Bits l) (hn : ls.length ≤ 1000) (h3 : ∀ l ∈ ls, l.length ≤ 300) : LissIn w v ls := by
  rcases h with ⟨rfl, rfl⟩ | ⟨g, cap, rfl, _, _, h3', h4, _, h6⟩
  · exact ⟨none, 0, rfl, by decide, .inl rfl⟩
  · refine ⟨_, cap, rfl, by unfold big; omega, .inr ⟨g, 0, rfl, h3', fun i hi => ?_⟩⟩
    obtain ⟨x, l, h, hc, hx, _⟩ := h6 i hi
    rw [Nat.zero_add]
    refine ⟨x, hc, ?_⟩
    unfold ListE at hx
    rw [getD_ls _ _ hi] at hx
    obtain ⟨a, c, hv, hin⟩ := hx.ptsIn
    have h5 := h3 _ (List.getElem_mem hi)
    exact ⟨a, c, hv, by unfold big; omega, hin, hb _ (List.getElem_mem hi)⟩
/-- a shape, so many levels deep, in those blocks -/
def ShB : Nat → Nat → Nat → World → Value → Value → Sh → Prop
  | 0, _, _, _, _, _, _ => False
  | d + 1, lo, hi, w, lv, pv, s => ListsN s.lists lo hi w lv ∧ ((s.parts = [] ∧ pv = .slice none 0 0) ∨ ∃ g cap, pv = .slice (some ⟨g, 0, none⟩) s.parts.length cap ∧ lo ≤ g ∧ g < hi ∧ g < w.heap.size ∧ s.parts.length ≤ cap ∧ (∀ j, w.frozen? ⟨g, j, none⟩ = false) ∧
    ∀ i, i < s.parts.length → ∃ lv' pv' l h, w.cell? ⟨g, i * 3, none⟩ = some (.int .i64 (s.parts.getD i dsh).kind) ∧ w.cell? ⟨g, i * 3 + 1, none⟩ = some lv' ∧ w.cell? ⟨g, i * 3 + 2, none⟩ = some pv' ∧ ShB d l h w lv' pv' (s.parts.getD i dsh) ∧ lo ≤ l ∧ h ≤ hi ∧ h ≤ w.heap.size ∧ (g < l ∨ h ≤ g))
theorem ShB.keep : ∀ {d lo hi : Nat} {w w' : World} {lv pv : Value} {s : Sh}, ShB d lo hi w lv pv s → Agree lo hi w w' → w.heap.size ≤ w'.heap.size → ShB d lo hi w' lv pv s
  | 0, _, _, _, _, _, _, _, h, _, _ => h.elim
  | d + 1, lo, hi, w, w', lv, pv, s, ⟨hl, hp⟩, a, hs => by
    refine ⟨hl.keep a hs, hp.imp id ?_⟩
    rintro ⟨g, cap, hv, h1, h2, h3, h4, h5, h6⟩
    refine ⟨g, cap, hv, h1, h2, by omega, h4, fun j => (a.frozen h1 h2 j).trans (h5 j), fun i hi => ?_⟩
    obtain ⟨lv', pv', l, h, c0, c1, c2, e, p, q, r, s⟩ := h6 i hi
    exact ⟨lv', pv', l, h, (a.cell h1 h2 _).trans c0, (a.cell h1 h2 _).trans c1, (a.cell h1 h2 _).trans c2, ShB.keep e (a.mono p q) hs, p, q, by omega, s⟩
theorem ShB.mono : ∀ {d lo hi l h : Nat} {w : World} {lv pv : Value} {s : Sh}, ShB d l h w lv pv s → lo ≤ l → h ≤ hi → ShB d lo hi w lv pv s
  | 0, _, _, _, _, _, _, _, _, h, _, _ => h.elim
  | d + 1, lo, hi, l, h, w, lv, pv, s, ⟨hl, hp⟩, k1, k2 => by
    refine ⟨hl.mono k1 k2, hp.imp id ?_⟩
    rintro ⟨g, cap, hv, h1, h2, h3, h4, h5, h6⟩
    refine ⟨g, cap, hv, by omega, by omega, h3, h4, h5, fun i hi => ?_⟩
    obtain ⟨lv', pv', l', h', c0, c1, c2, e, p, q, r, s⟩ := h6 i hi
    exact ⟨lv', pv', l', h', c0, c1, c2, e, by omega, by omega, r, s⟩
theorem ShB.shIn : ∀ {d lo hi : Nat} {w : World} {lv pv : Value} {s : Sh}, ShB d lo hi w lv pv s → BitsSh d s → cntOk d s = true → Small d s → ShIn d w lv pv s
  | 0, _, _, _, _, _, _, h, _, _, _ => h.elim
  | d + 1, lo, hi, w, lv, pv, s, ⟨hl, hp⟩, hb, hk, hs => by
    obtain ⟨h1, h2, _⟩ := cntOk_parts hk
    obtain ⟨_, _, k3, k4⟩ := shHead_spec h1
    refine ⟨hl.liss hb.1 (by omega) hs.1, ?_⟩
    rcases hp with ⟨e, rfl⟩ | ⟨g, cap, rfl, _, _, h3, h4, _, h6⟩
    · exact ⟨none, 0, by rw [e]; rfl, by rw [e]; decide, .inl e⟩
    · refine ⟨_, cap, rfl, by unfold big; omega, .inr ⟨g, 0, rfl, h3, fun i hi => ?_⟩⟩
      obtain ⟨lv', pv', l, h, c0, c1, c2, e, _⟩ := h6 i hi
      rw [getD_sh _ _ hi] at c0 e
      rw [Nat.zero_add]
      exact ⟨lv', pv', c0, c1, c2, ShB.shIn e (hb.2 _ (List.getElem_mem hi)) (h2 _ (List.getElem_mem hi)).1 (hs.2 _ (List.getElem_mem hi))⟩

theorem own_agree {w w' : World} {base : Nat} {e : TypeId} {size : Nat} {v : Value} {n : Nat} {xs : List Value} (h : w.ownsRow base e size v n xs) (k : ∀ g, v.ownBlock = some g → w'.heap[g]? = w.heap[g]?) : w'.ownsRow base e size v n xs := by
  obtain ⟨h1, h2⟩ := h
  refine ⟨h1, h2.imp id ?_⟩
  rintro ⟨g, cap, cur, hv, h3, h4, h5⟩
  exact ⟨g, cap, cur, hv, h3, (k g (by rw [hv]; rfl)).trans h4, h5⟩

/-- a row of values that a function makes; nil while there are none -/
structure RowsQ (E : Nat → Nat → Nat → World → Value → Prop) (T : TypeId) (L : Nat) (wr : World) (rv : Value) (k : Nat) (xs : List Value) : Prop where
  own : wr.ownsRow L T 1 rv k xs
  el : ∀ i, i < k → ∃ x lo hi, xs[i]? = some x ∧ E i lo hi wr x ∧ L ≤ lo ∧ hi ≤ wr.heap.size ∧ ∀ g, rv.ownBlock = some g → g < lo ∨ hi ≤ g
theorem RowsQ.start (E : Nat → Nat → Nat → World → Value → Prop) (T : TypeId) (L : Nat) (w : World) : RowsQ E T L w (.slice none 0 0) 0 [] := ⟨⟨rfl, .inl ⟨rfl, rfl⟩⟩, fun i hi => by omega⟩
theorem own_lt {w : World} {base : Nat} {e : TypeId} {size : Nat} {v : Value} {n : Nat} {xs : List Value} (h : w.ownsRow base e size v n xs) {g : Nat} (hg : v.ownBlock = some g) : base ≤ g ∧ g < w.heap.size := h.lt g hg
theorem RowsQ.step {E : Nat → Nat → Nat → World → Value → Prop} (hE : KeepE E) {T : TypeId} {L : Nat} {wr w2 w1 : World} {rv rv' x : Value} {k n1 n2 : Nat} {xs : List Value} (h : RowsQ E T L wr rv k xs) (hk : Kp wr w2) (hx : E k n1 n2 w2 x)
    (h0 : L ≤ n1) (h1 : wr.heap.size ≤ n1) (h2 : n2 ≤ w2.heap.size) (hown : w1.ownsRow L T 1 rv' (k + 1) (xs ++ [x])) (hg : w2.grownBy w1 rv.ownBlock) (hb : rv'.ownBlock = rv.ownBlock ∨ rv'.ownBlock = some w2.heap.size) :
    RowsQ E T L w1 rv' (k + 1) (xs ++ [x]) := by
  have hl : xs.length = k := by have := h.own.1; omega
  have hs0 : ∀ g, rv.ownBlock = some g → g < wr.heap.size := fun g hgg => (own_lt h.own hgg).2
  have hsz := hk.size
  have hsg := hg.size
  refine ⟨hown, fun i hi => ?_⟩
  by_cases c : i = k
  · subst c
    refine ⟨x, n1, n2, by rw [List.getElem?_append_right (by omega)]; simp [hl], ?_, h0, by omega, ?_⟩
    · refine hE i n1 n2 w2 w1 x (Agree.of_grown hg h2 fun r hr => ?_) hsg hx
      have := hs0 r hr; omega
    · intro g hgg
      rcases hb with e | e
      · rw [e] at hgg; have := hs0 g hgg; omega
      · rw [e] at hgg; cases hgg; omega
  · obtain ⟨y, lo, hi', hy, he, q1, q2, q3⟩ := h.el i (by omega)
    refine ⟨y, lo, hi', by rw [List.getElem?_append_left (by omega)]; exact hy, ?_, q1, by omega, ?_⟩
    · exact hE i lo hi' wr w1 y ((Agree.of_kp hk q2).trans (Agree.of_grown hg (by omega) fun r hr => q3 r hr)) (by omega) he
    · intro g hgg
      rcases hb with e | e
      · rw [e] at hgg; exact q3 g hgg
      · rw [e] at hgg; cases hgg; omega
/-- another block is written -/
theorem RowsQ.other {E : Nat → Nat → Nat → World → Value → Prop} (hE : KeepE E) {T : TypeId} {L : Nat} {w w' : World} {rv : Value} {k : Nat} {xs : List Value} (h : RowsQ E T L w rv k xs) (hk : ∀ b, L ≤ b → w'.heap[b]? = w.heap[b]?) (hs : w.heap.size ≤ w'.heap.size) : RowsQ E T L w' rv k xs := by
  refine ⟨own_agree h.own fun g hg => hk g (own_lt h.own hg).1, fun i hi => ?_⟩
  obtain ⟨y, lo, hi', hy, he, q1, q2, q3⟩ := h.el i hi
  exact ⟨y, lo, hi', hy, hE i lo hi' w w' y (fun b b1 _ => hk b (by omega)) hs he, q1, by omega, q3⟩
theorem RowsQ.done {E : Nat → Nat → Nat → World → Value → Prop} {T : TypeId} {L : Nat} {w : World} {rv : Value} {k : Nat} {xs : List Value} (h : RowsQ E T L w rv k xs) : (k = 0 ∧ rv = .slice none 0 0) ∨ RowB E L w.heap.size w rv k := by
  obtain ⟨hown, hel⟩ := h
  have hown' := hown
  rcases hown.2 with ⟨h, h'⟩ | ⟨g, cap, cur, rfl, hb, hg, h1, _⟩
  · exact .inl ⟨h', h⟩
  · have hs := (own_lt hown' (g := g) rfl).2
    refine .inr ⟨g, cap, rfl, hb, hs, hs, h1, fun j => row_frozen hg, fun i hi => ?_⟩
    obtain ⟨x, lo, hi', hx, he, q1, q2, q3⟩ := hel i hi
    refine ⟨x, lo, hi', ?_, he, q1, q2, q2, q3 g rfl⟩
    rw [hown'.cellAt i (by omega), hx]

/-- a row of shapes that a function makes; nil while there are none -/
structure Rows3 (d : Nat) (qs : List Sh) (L : Nat) (wr : World) (rv : Value) (k : Nat) (xs : List Value) : Prop where
  own : wr.ownsRow L 30 3 rv k xs
  el : ∀ i, i < k → ∃ lv pv lo hi, xs[i * 3]? = some (.int .i64 (qs.getD i dsh).kind) ∧ xs[i * 3 + 1]? = some lv ∧ xs[i * 3 + 2]? = some pv ∧ ShB d lo hi wr lv pv (qs.getD i dsh) ∧ L ≤ lo ∧ hi ≤ wr.heap.size ∧ ∀ g, rv.ownBlock = some g → g < lo ∨ hi ≤ g
theorem Rows3.start (d : Nat) (qs : List Sh) (L : Nat) (w : World) : Rows3 d qs L w (.slice none 0 0) 0 [] := ⟨⟨rfl, .inl ⟨rfl, rfl⟩⟩, fun i hi => by omega⟩
theorem Rows3.step {d : Nat} {qs : List Sh} {L : Nat} {wr w2 w1 : World} {rv rv' lv pv : Value} {k n1 n2 : Nat} {xs : List Value} (h : Rows3 d qs L wr rv k xs) (hk : Kp wr w2) (hx : ShB d n1 n2 w2 lv pv (qs.getD k dsh))
    (h0 : L ≤ n1) (h1 : wr.heap.size ≤ n1) (h2 : n2 ≤ w2.heap.size) (hown : w1.ownsRow L 30 3 rv' (k + 1) (xs ++ [.int .i64 (qs.getD k dsh).kind, lv, pv])) (hg : w2.grownBy w1 rv.ownBlock) (hb : rv'.ownBlock = rv.ownBlock ∨ rv'.ownBlock = some w2.heap.size) :
    Rows3 d qs L w1 rv' (k + 1) (xs ++ [.int .i64 (qs.getD k dsh).kind, lv, pv]) := by
  have hl : xs.length = k * 3 := h.own.1
  have hs0 : ∀ g, rv.ownBlock = some g → g < wr.heap.size := fun g hgg => (own_lt h.own hgg).2
  have hsz := hk.size
  have hsg := hg.size
  refine ⟨hown, fun i hi => ?_⟩
  by_cases c : i = k
  · subst c
    refine ⟨lv, pv, n1, n2, ?_, ?_, ?_, ?_, h0, by omega, ?_⟩
    · rw [List.getElem?_append_right (by omega), hl, show i * 3 - i * 3 = 0 by omega]; rfl
    · rw [List.getElem?_append_right (by omega), hl, show i * 3 + 1 - i * 3 = 1 by omega]; rfl
    · rw [List.getElem?_append_right (by omega), hl, show i * 3 + 2 - i * 3 = 2 by omega]; rfl
    · refine ShB.keep hx (Agree.of_grown hg h2 fun r hr => ?_) hsg
      have := hs0 r hr; omega
    · intro g hgg
      rcases hb with e | e
      · rw [e] at hgg; have := hs0 g hgg; omega
      · rw [e] at hgg; cases hgg; omega
  · obtain ⟨lv', pv', lo, hi', y0, y1, y2, he, q1, q2, q3⟩ := h.el i (by omega)
    refine ⟨lv', pv', lo, hi', by rw [List.getElem?_append_left (by omega)]; exact y0, by rw [List.getElem?_append_left (by omega)]; exact y1, by rw [List.getElem?_append_left (by omega)]; exact y2, ?_, q1, by omega, ?_⟩
    · exact ShB.keep he ((Agree.of_kp hk q2).trans (Agree.of_grown hg (by omega) fun r hr => q3 r hr)) (by omega)
    · intro g hgg
      rcases hb with e | e
      · rw [e] at hgg; exact q3 g hgg
      · rw [e] at hgg; cases hgg; omega
theorem Rows3.other {d : Nat} {qs : List Sh} {L : Nat} {w w' : World} {rv : Value} {k : Nat} {xs : List Value} (h : Rows3 d qs L w rv k xs) (hk : ∀ b, L ≤ b → w'.heap[b]? = w.heap[b]?) (hs : w.heap.size ≤ w'.heap.size) : Rows3 d qs L w' rv k xs := by
  refine ⟨own_agree h.own fun g hg => hk g (own_lt h.own hg).1, fun i hi => ?_⟩
  obtain ⟨lv', pv', lo, hi', y0, y1, y2, he, q1, q2, q3⟩ := h.el i hi
  exact ⟨lv', pv', lo, hi', y0, y1, y2, ShB.keep he (fun b b1 _ => hk b (by omega)) hs, q1, by omega, q3⟩
theorem Rows3.done {d : Nat} {qs : List Sh} {L : Nat} {w : World} {rv : Value} {xs : List Value} (h : Rows3 d qs L w rv qs.length xs) {s : Sh} {lv : Value} (hl : ListsN s.lists L w.heap.size w lv) (hp : s.parts = qs) : ShB (d + 1) L w.heap.size w lv rv s := by
  subst hp
  refine ⟨hl, ?_⟩
  obtain ⟨hown, hel⟩ := h
  have hown' := hown
  rcases hown.2 with ⟨h, h'⟩ | ⟨g, cap, cur, rfl, hb, hg, h1, _⟩
  · exact .inl ⟨List.eq_nil_of_length_eq_zero h', h⟩
  · have hs := (own_lt hown' (g := g) rfl).2
    refine .inr ⟨g, cap, rfl, hb, hs, hs, h1, fun j => row_frozen hg, fun i hi => ?_⟩
    obtain ⟨lv', pv', lo, hi', y0, y1, y2, he, q1, q2, q3⟩ := hel i hi
    refine ⟨lv', pv', lo, hi', ?_, ?_, ?_, he, q1, q2, q2, q3 g rfl⟩
    · rw [hown'.cellAt _ (by omega), y0]
    · rw [hown'.cellAt _ (by omega), y1]
    · rw [hown'.cellAt _ (by omega), y2]
/-- what a call hands back that makes a shape -/
def RetSh (d : Nat) (s : Sh) (w : World) (e : Ending) (w' : World) : Prop := ∃ lv pv u, e = .returned (.agg #[.int .i64 s.kind, lv, pv]) ∧ w' = ext w u ∧ ShB d w.heap.size w'.heap.size w' lv pv s
end Go.Proofs.YtobdohhabgnjiaaGreatDoor
