/-
  Geometries of the package in memory; impl.pointsOf and impl.polygonOf once more: what they make lies in new memory of its own.
-/
import Derived.Test.YtobdohhabgnjiaaGreatDoorShape
import Derived.Test.YtobdohhabgnjiaaGreatDoorApp
set_option linter.all false
namespace Go.Proofs.YtobdohhabgnjiaaGreatDoor
open PubFl Go.RowKit

attribute [local go_sem] cell_ext frozen_ext ext_setCell cell_store size_ext_eq lt_p0 lt_p1 lt_p2 lt_p3 lt_p4 lt_p5 lt_p6 lt_p7 lt_p8 lt_p9 lt_p10 lt_p11 lt_p12 lt_p13 lt_p14 lt_p15 lt_p16 lt_p17 lt_p18 lt_p19 lt_p20 lt_p21 lt_p22 lt_p23 lt_p24 lt_p25 lt_p26 lt_p27 lt_p28 lt_p29 lt_p30 lt_p31 lt_p32 lt_q1 lt_q2 lt_q3 lt_q4 lt_q5 lt_q6 lt_q7 lt_q8 lt_q9 lt_q10 lt_q11 lt_q12 lt_q13 lt_q14 lt_q15 lt_q16 lt_q17 lt_q18 lt_q19 lt_q20 lt_q21 lt_q22 lt_q23 lt_q24 lt_q25 lt_q26 lt_q27 lt_q28 lt_q29 lt_q30 lt_q31 lt_q32 run_fop run_store_float
attribute [local go_sem high] cmp_eql cmp_neq cmp_lss cmp_leq cmp_gtr cmp_geq

/-- blocks lo .. hi - 1 are the same -/
def Agree (lo hi : Nat) (w w' : World) : Prop := ∀ b, lo ≤ b → b < hi → w'.heap[b]? = w.heap[b]?
theorem Agree.cell {lo hi : Nat} {w w' : World} (h : Agree lo hi w w') {b : Nat} (h1 : lo ≤ b) (h2 : b < hi) (o : Nat) : w'.cell? ⟨b, o, none⟩ = w.cell? ⟨b, o, none⟩ := World.cell?_of_block (h b h1 h2)
theorem Agree.frozen {lo hi : Nat} {w w' : World} (h : Agree lo hi w w') {b : Nat} (h1 : lo ≤ b) (h2 : b < hi) (o : Nat) : w'.frozen? ⟨b, o, none⟩ = w.frozen? ⟨b, o, none⟩ := World.frozen?_of_block (h b h1 h2)
theorem Agree.mono {lo hi l h : Nat} {w w' : World} (a : Agree lo hi w w') (h1 : lo ≤ l) (h2 : h ≤ hi) : Agree l h w w' := fun b b1 b2 => a b (by omega) (by omega)
theorem Agree.of_kp {lo hi : Nat} {w w' : World} (k : Kp w w') (h : hi ≤ w.heap.size) : Agree lo hi w w' := fun b _ h2 => k.block b (by omega)
theorem Agree.of_grown {lo hi : Nat} {w w' : World} {row : Option Nat} (g : w.grownBy w' row) (h : hi ≤ w.heap.size) (hr : ∀ r, row = some r → r < lo ∨ hi ≤ r) : Agree lo hi w w' :=
  fun b h1 h2 => g.block b (by omega) (fun e => by have := hr b e.symm; omega)
theorem Agree.trans {lo hi : Nat} {w w' w'' : World} (a : Agree lo hi w w') (b : Agree lo hi w' w'') : Agree lo hi w w'' := fun x h1 h2 => (b x h1 h2).trans (a x h1 h2)

/-- a list of points in those blocks, not nil -/
def PtsB (lo hi : Nat) (w : World) (v : Value) (ps : List (Nat × Nat)) : Prop := ∃ g cap, v = .slice (some ⟨g, 0, none⟩) ps.length cap ∧ lo ≤ g ∧ g < hi ∧ g < w.heap.size ∧ ps.length ≤ cap ∧ (∀ j, w.frozen? ⟨g, j, none⟩ = false) ∧ PtsAt w g 0 ps
theorem PtsB.keep {lo hi : Nat} {w w' : World} {v : Value} {ps : List (Nat × Nat)} (h : PtsB lo hi w v ps) (a : Agree lo hi w w') : PtsB lo hi w' v ps := by
  obtain ⟨g, cap, hv, h1, h2, h3, h4, h5, h6⟩ := h
  refine ⟨g, cap, hv, h1, h2, ?_, h4, fun j => (a.frozen h1 h2 j).trans (h5 j), fun i hi => ⟨(a.cell h1 h2 _).trans (h6 i hi).1, (a.cell h1 h2 _).trans (h6 i hi).2⟩⟩
  have e := a g h1 h2
  rw [Array.getElem?_eq_getElem h3] at e
  rcases Nat.lt_or_ge g w'.heap.size with c | c
  · exact c
  · rw [Array.getElem?_eq_none c] at e; cases e
theorem PtsB.mono {lo hi l h : Nat} {w : World} {v : Value} {ps : List (Nat × Nat)} (p : PtsB l h w v ps) (h1 : lo ≤ l) (h2 : h ≤ hi) : PtsB lo hi w v ps := by
  obtain ⟨g, cap, hv, a, b, c⟩ := p
  exact ⟨g, cap, hv, by omega, by omega, c⟩
theorem PtsB.ptsIn {lo hi : Nat} {w : World} {v : Value} {ps : List (Nat × Nat)} (h : PtsB lo hi w v ps) : ∃ a cap, v = .slice a ps.length cap ∧ PtsIn w a ps := by
  obtain ⟨g, cap, hv, _, _, h3, _, _, h6⟩ := h
  exact ⟨_, cap, hv, .inr ⟨g, 0, rfl, h3, h6⟩⟩

/-- a row of values, one cell each, in those blocks; what each is says E, in blocks of its own -/
def RowB (E : Nat → Nat → Nat → World → Value → Prop) (lo hi : Nat) (w : World) (v : Value) (n : Nat) : Prop :=
  ∃ g cap, v = .slice (some ⟨g, 0, none⟩) n cap ∧ lo ≤ g ∧ g < hi ∧ g < w.heap.size ∧ n ≤ cap ∧ (∀ j, w.frozen? ⟨g, j, none⟩ = false) ∧ ∀ i, i < n → ∃ x l h, w.cell? ⟨g, i, none⟩ = some x ∧ E i l h w x ∧ lo ≤ l ∧ h ≤ hi ∧ h ≤ w.heap.size ∧ (g < l ∨ h ≤ g)
def KeepE (E : Nat → Nat → Nat → World → Value → Prop) : Prop := ∀ i lo hi w w' x, Agree lo hi w w' → w.heap.size ≤ w'.heap.size → E i lo hi w x → E i lo hi w' x
theorem RowB.keep {E : Nat → Nat → Nat → World → Value → Prop} (hE : KeepE E) {lo hi : Nat} {w w' : World} {v : Value} {n : Nat} (h : RowB E lo hi w v n) (a : Agree lo hi w w') (hs : w.heap.size ≤ w'.heap.size) : RowB E lo hi w' v n := by
  obtain ⟨g, cap, hv, h1, h2, h3, h4, h5, h6⟩ := h
  refine ⟨g, cap, hv, h1, h2, by omega, h4, fun j => (a.frozen h1 h2 j).trans (h5 j), fun i hi => ?_⟩
  obtain ⟨x, l, h, c, e, p, q, r, s⟩ := h6 i hi
  exact ⟨x, l, h, (a.cell h1 h2 _).trans c, hE i l h w w' x (a.mono p q) hs e, p, q, by omega, s⟩
theorem RowB.mono {E : Nat → Nat → Nat → World → Value → Prop} {lo hi l h : Nat} {w : World} {v : Value} {n : Nat} (p : RowB E l h w v n) (h1 : lo ≤ l) (h2 : h ≤ hi) : RowB E lo hi w v n := by
  obtain ⟨g, cap, hv, a, b, c, d, e, f⟩ := p
  refine ⟨g, cap, hv, by omega, by omega, c, d, e, fun i hi => ?_⟩
  obtain ⟨x, l', h', c1, c2, c3, c4, c5, c6⟩ := f i hi
  exact ⟨x, l', h', c1, c2, by omega, by omega, c5, c6⟩
def dsh : Sh := .mk 0 [] []
def ListE (ls : List (List (Nat × Nat))) (i l h : Nat) (w : World) (x : Value) : Prop := PtsB l h w x (ls.getD i [])
def ListsB (ls : List (List (Nat × Nat))) (lo hi : Nat) (w : World) (v : Value) : Prop := RowB (ListE ls) lo hi w v ls.length
def PolyE (qs : List Sh) (i l h : Nat) (w : World) (x : Value) : Prop := ListsB (qs.getD i dsh).lists l h w x
theorem keep_list (ls : List (List (Nat × Nat))) : KeepE (ListE ls) := fun _ _ _ _ _ _ a _ h => PtsB.keep h a
theorem keep_poly (qs : List Sh) : KeepE (PolyE qs) := fun _ _ _ _ _ _ a hs h => RowB.keep (keep_list _) h a hs
/-- a geometry, so many levels deep, in those blocks -/
def GeoB : Nat → Nat → Nat → World → Value → Sh → Prop
  | 0, _, _, _, _, _ => False
  | d + 1, lo, hi, w, v, s =>
    (s.kind = 1 ∧ ∃ x y, s.lists = [[(x, y)]] ∧ s.parts = [] ∧ v = .iface 88 (.agg #[.float .f64 x, .float .f64 y])) ∨
    (s.kind = 2 ∧ ∃ ps u, s.lists = [ps] ∧ s.parts = [] ∧ v = .iface 91 u ∧ PtsB lo hi w u ps) ∨
    (s.kind = 3 ∧ ∃ u, s.parts = [] ∧ v = .iface 93 u ∧ ListsB s.lists lo hi w u) ∨
    (s.kind = 4 ∧ ∃ ps u, s.lists = [ps] ∧ s.parts = [] ∧ v = .iface 95 u ∧ PtsB lo hi w u ps) ∨
    (s.kind = 5 ∧ ∃ u, s.parts = [] ∧ v = .iface 97 u ∧ ListsB s.lists lo hi w u) ∨
    (s.kind = 6 ∧ ∃ u, s.lists = [] ∧ v = .iface 99 u ∧ RowB (PolyE s.parts) lo hi w u s.parts.length) ∨
    (s.kind = 7 ∧ ∃ u, s.lists = [] ∧ v = .iface 101 u ∧ RowB (fun i l h w x => GeoB d l h w x (s.parts.getD i dsh)) lo hi w u s.parts.length)
theorem GeoB.keep : ∀ {d lo hi : Nat} {w w' : World} {v : Value} {s : Sh}, GeoB d lo hi w v s → Agree lo hi w w' → w.heap.size ≤ w'.heap.size → GeoB d lo hi w' v s
  | 0, _, _, _, _, _, _, h, _, _ => h.elim
  | d + 1, lo, hi, w, w', v, s, h, a, hs => by
    rcases h with h | ⟨hk, ps, u, h1, h2, h3, h4⟩ | ⟨hk, u, h1, h2, h3⟩ | ⟨hk, ps, u, h1, h2, h3, h4⟩ | ⟨hk, u, h1, h2, h3⟩ | ⟨hk, u, h1, h2, h3⟩ | ⟨hk, u, h1, h2, h3⟩
    · exact .inl h
    · exact .inr (.inl ⟨hk, ps, u, h1, h2, h3, h4.keep a⟩)
    · exact .inr (.inr (.inl ⟨hk, u, h1, h2, h3.keep (keep_list _) a hs⟩))
    · exact .inr (.inr (.inr (.inl ⟨hk, ps, u, h1, h2, h3, h4.keep a⟩)))
    · exact .inr (.inr (.inr (.inr (.inl ⟨hk, u, h1, h2, h3.keep (keep_list _) a hs⟩))))
    · exact .inr (.inr (.inr (.inr (.inr (.inl ⟨hk, u, h1, h2, h3.keep (keep_poly _) a hs⟩)))))
    · exact .inr (.inr (.inr (.inr (.inr (.inr ⟨hk, u, h1, h2, RowB.keep (E := fun i l h w x => GeoB d l h w x (s.parts.getD i dsh)) (fun i l h w w' x a hs e => GeoB.keep e a hs) h3 a hs⟩)))))
theorem GeoB.mono : ∀ {d lo hi l h : Nat} {w : World} {v : Value} {s : Sh}, GeoB d l h w v s → lo ≤ l → h ≤ hi → GeoB d lo hi w v s
  | 0, _, _, _, _, _, _, _, h, _, _ => h.elim
  | d + 1, lo, hi, l, h, w, v, s, g, h1, h2 => by
    rcases g with g | ⟨hk, ps, u, g1, g2, g3, g4⟩ | ⟨hk, u, g1, g2, g3⟩ | ⟨hk, ps, u, g1, g2, g3, g4⟩ | ⟨hk, u, g1, g2, g3⟩ | ⟨hk, u, g1, g2, g3⟩ | ⟨hk, u, g1, g2, g3⟩
    · exact .inl g
    · exact .inr (.inl ⟨hk, ps, u, g1, g2, g3, g4.mono h1 h2⟩)
    · exact .inr (.inr (.inl ⟨hk, u, g1, g2, RowB.mono g3 h1 h2⟩))
    · exact .inr (.inr (.inr (.inl ⟨hk, ps, u, g1, g2, g3, g4.mono h1 h2⟩)))
    · exact .inr (.inr (.inr (.inr (.inl ⟨hk, u, g1, g2, RowB.mono g3 h1 h2⟩))))
    · exact .inr (.inr (.inr (.inr (.inr (.inl ⟨hk, u, g1, g2, RowB.mono g3 h1 h2⟩)))))
    · exact .inr (.inr (.inr (.inr (.inr (.inr ⟨hk, u, g1, g2, RowB.mono g3 h1 h2⟩)))))

/-- a row that a function makes -/
structure RowsP (E : Nat → Nat → Nat → World → Value → Prop) (T : TypeId) (L : Nat) (wr : World) (rv : Value) (k : Nat) (xs : List Value) : Prop where
  own : wr.ownsRow L T 1 rv k xs
  nn : ∃ g, rv.ownBlock = some g
  el : ∀ i, i < k → ∃ x lo hi, xs[i]? = some x ∧ E i lo hi wr x ∧ L ≤ lo ∧ hi ≤ wr.heap.size ∧ ∀ g, rv.ownBlock = some g → g < lo ∨ hi ≤ g
theorem RowsP.start (E : Nat → Nat → Nat → World → Value → Prop) (T : TypeId) {L : Nat} {w : World} (h : L ≤ w.heap.size) : RowsP E T L (w.alloc (.cells #[] T)) (.slice (some ⟨w.heap.size, 0, none⟩) 0 0) 0 [] :=
  ⟨World.ownsRow_lit w #[] 0 h (by decide) rfl, ⟨_, rfl⟩, fun i hi => by omega⟩
theorem own_size {w : World} {base : Nat} {e : TypeId} {size : Nat} {v : Value} {n : Nat} {xs : List Value} (h : w.ownsRow base e size v n xs) {g : Nat} (hg : v.ownBlock = some g) : base ≤ g ∧ g < w.heap.size := h.lt g hg
/-- one more: w2 is the world with the new value in a row of one, w1 the world behind the append -/
theorem RowsP.step {E : Nat → Nat → Nat → World → Value → Prop} (hE : KeepE E) {T : TypeId} {L : Nat} {wr w2 w1 : World} {rv rv' x : Value} {k n1 n2 : Nat} {xs : List Value} (h : RowsP E T L wr rv k xs) (hk : Kp wr w2) (hx : E k n1 n2 w2 x)
    (h0 : L ≤ n1) (h1 : wr.heap.size ≤ n1) (h2 : n2 ≤ w2.heap.size) (hown : w1.ownsRow L T 1 rv' (k + 1) (xs ++ [x])) (hg : w2.grownBy w1 rv.ownBlock) (hb : rv'.ownBlock = rv.ownBlock ∨ rv'.ownBlock = some w2.heap.size) :
    RowsP E T L w1 rv' (k + 1) (xs ++ [x]) := by
  have hl : xs.length = k := by have := h.own.1; omega
  obtain ⟨g0, hg0⟩ := h.nn
  have hs0 := (own_size h.own hg0).2
  have hsz := hk.size
  have hsg := hg.size
  refine ⟨hown, by rcases hb with e | e <;> exact ⟨_, e.trans (by first | exact hg0 | rfl)⟩, fun i hi => ?_⟩
  by_cases c : i = k
  · subst c
    refine ⟨x, n1, n2, by rw [List.getElem?_append_right (by omega)]; simp [hl], ?_, h0, by omega, ?_⟩
    · refine hE i n1 n2 w2 w1 x (Agree.of_grown hg h2 fun r hr => ?_) hsg hx
      rw [hg0] at hr; cases hr; omega
    · intro g hgg
      rcases hb with e | e
      · rw [e, hg0] at hgg; cases hgg; omega
      · rw [e] at hgg; cases hgg; omega
  · obtain ⟨y, lo, hi', hy, he, q1, q2, q3⟩ := h.el i (by omega)
    have q4 := q3 g0 hg0
    refine ⟨y, lo, hi', by rw [List.getElem?_append_left (by omega)]; exact hy, ?_, q1, by omega, ?_⟩
    · refine hE i lo hi' wr w1 y ((Agree.of_kp hk q2).trans (Agree.of_grown hg (by omega) fun r hr => ?_)) (by omega) he
      rw [hg0] at hr; cases hr; omega
    · intro g hgg
      rcases hb with e | e
      · rw [e, hg0] at hgg; cases hgg; omega
      · rw [e] at hgg; cases hgg; omega
theorem row_frozen {w : World} {g j : Nat} {c : Array Value} {e : TypeId} (h : w.heap[g]? = some (.cells c e (0, 0))) : w.frozen? ⟨g, j, none⟩ = false := by
  unfold World.frozen?
  simp only [h]
  simp
theorem RowsP.done {E : Nat → Nat → Nat → World → Value → Prop} {T : TypeId} {L : Nat} {w : World} {rv : Value} {k : Nat} {xs : List Value} (h : RowsP E T L w rv k xs) : RowB E L w.heap.size w rv k := by
  obtain ⟨hown, ⟨g0, hg0⟩, hel⟩ := h
  have hown' := hown
  rcases hown.2 with ⟨rfl, _⟩ | ⟨g, cap, cur, rfl, hb, hg, h1, _⟩
  · cases hg0
  · have hs := (own_size hown' (g := g) rfl).2
    refine ⟨g, cap, rfl, hb, hs, hs, h1, fun j => row_frozen hg, fun i hi => ?_⟩
    obtain ⟨x, lo, hi', hx, he, q1, q2, q3⟩ := hel i hi
    refine ⟨x, lo, hi', ?_, he, q1, q2, q2, q3 g rfl⟩
    rw [hown'.cellAt i (by omega), hx]
theorem lit1 {w : World} {x : Value} {e : TypeId} {n : Nat} (h : n = w.heap.size) : ∀ (j : Nat) (u : Value), [x][j]? = some u → (w.alloc (.cells #[x] e)).cell? ((⟨n, 0, none⟩ : Addr).add j) = some u := by
  subst h
  intro j u hu
  cases j with
  | zero =>
    have e : u = x := by simpa using hu.symm
    subst e
    simp [Addr.add]
  | succ j => simp at hu

/-- what a call that makes new memory hands back -/
def RetB (w : World) (G : Nat → Nat → World → Value → Prop) (e : Ending) (w' : World) : Prop := ∃ v u, e = .returned v ∧ w' = ext w u ∧ G w.heap.size w'.heap.size w' v

set_option maxHeartbeats 1000000 in
theorem pointsB_c (a : Option Addr) (cap : Nat) (ps : List (Nat × Nat)) (hn : ps.length ≤ 2147483647) (w : World) (hs : PtsIn w a ps) :
    Calls Tryz.prog 35 #[.slice a ps.length cap] w (RetB w fun lo hi w v => PtsB lo hi w v ps) := by
  obtain ⟨i0, hi, hz0, hz1, hz2⟩ := info_parts infoOPt
  go_enter Tryz.func35, Tryz.ntmps35
  go_wp2_with fail
  go_loopw [3, 9] (fun v i wr => ∃ k : Nat, k ≤ ps.length ∧ i = .int .i64 k ∧ Kp w wr ∧ wr.ownsRow w.heap.size 88 2 v k (cellsOf (ps.take k)) ∧ ∃ g, v.ownBlock = some g) (fun _ i _ => ps.length - (intOf i).toNat)
  case atStart => exact ⟨0, Nat.zero_le _, rfl, (by repeat (first | (with_reducible exact Kp.refl _) | (with_reducible assumption) | (with_reducible apply Kp.ext) | (with_reducible apply Kp.alloc) | (with_reducible apply Kp.drew) | (with_reducible apply Kp.drewN) | (with_reducible refine Kp.setCell ?_ (by first | (dsimp only; omega) | (simp; omega) | (simp; done) | (simp [size_ext_eq]; omega)) _))), World.ownsRow_lit w #[] 0 (Nat.le_refl _) (by decide) rfl, _, rfl⟩
  case round =>
    obtain ⟨k, hkn, rfl, hkp, hown, g0, hg0⟩ := hrel
    by_cases hlt : k < ps.length
    · obtain ⟨b, off, rfl, hb, hpt⟩ : ∃ b off, a = some ⟨b, off, none⟩ ∧ b < w.heap.size ∧ PtsAt w b off ps := by
        rcases hs with hs | hs
        · subst hs; simp at hlt
        · exact hs
      obtain ⟨e0, e1⟩ := hpt.kp hb hkp k hlt
      have hc1 : cellsOf (ps.take (k + 1)) = cellsOf (ps.take k) ++ [.float .f64 (ps[k]'hlt).1, .float .f64 (ps[k]'hlt).2] := by
        rw [List.take_succ_eq_append_getElem hlt, cellsOf_snoc]
      obtain ⟨⟨px, py⟩, hq⟩ : ∃ q, ps[k]'hlt = q := ⟨_, rfl⟩
      rw [hq] at e0 e1 hc1
      clear hq
      have Hc := Lib.hid hc1
      have Hg0 := Lib.hid hg0
      clear hc1 hg0
      have hbk : b < wr.heap.size := Nat.lt_of_lt_of_le hb hkp.size
      have hsz := hkp.size
      go_wp2_with (at_builtin; refine wpList_append_own2 _ rfl (.tmp 13) (.tmp 19) 89 rfl w.heap.size 88 i0 (.agg #[.float .f64 0, .float .f64 0]) 2 16 Tryz.underlying89 hi hz0 hz1 hz2 rfl (by decide) _ k _ rfl ((hown.alloc _).alloc _) ⟨wr.heap.size + 1, 0, none⟩ 1 1 [.float .f64 px, .float .f64 py] rfl rfl ?c1 ?c2 ?c3 ?c4 ?c5 ?_)
      case c2 => exact ⟨rfl, rfl⟩
      case c3 => unfold maxLen; omega
      case c4 => omega
      case c5 => omega
      intro v' w1 hown1 hgrow1 hblk
      have hk1 : Kp w w1 := Below.grown ((hkp.alloc _).alloc _) hgrow1 (by simp; omega) (fun q hq => (hown.lt q hq).1)
      rw [← Hc.out] at hown1
      have hnn : ∃ g, v'.ownBlock = some g := by rcases hblk with e | e <;> exact ⟨_, e.trans (by first | exact Hg0.out | rfl)⟩
      clear Hc hblk
      go_wp2_with fail
      go_roundw
      case rel => exact ⟨k + 1, by omega, by go_num, hk1, hown1, hnn⟩
      case measure => simp [intOf]; omega
    · obtain rfl : k = ps.length := by omega
      rw [List.take_of_length_le (Nat.le_refl _)] at hown
      have Hown := Lib.hid hown
      have Hg0 := Lib.hid hg0
      clear hown hg0
      go_wp2_with fail
      go_ret
      refine ⟨_, _, rfl, ext_of hkp, ?_⟩
      have hown := Hown.out
      have hown' := hown
      rcases hown.2 with ⟨h, _⟩ | ⟨g, cap, cur, hv, hb, hg, h1, h2, h3, h4⟩
      · have := Hg0.out; rw [h] at this; cases this
      · have hsz := (own_size hown' (g := g) (by rw [hv]; rfl)).2
        refine ⟨g, cap, hv, hb, hsz, hsz, h1, fun j => row_frozen hg, fun i hi => ?_⟩
        subst hv
        obtain ⟨g1, g2⟩ := cellsOf_get ps i hi
        rw [Nat.zero_add]
        exact ⟨(hown'.cellAt _ (by omega)).trans g1, (hown'.cellAt _ (by omega)).trans g2⟩
end Go.Proofs.YtobdohhabgnjiaaGreatDoor
