/-
  Shapes as data, and in memory; a shape that came in, opened.
-/
import Derived.Test.YtobdohhabgnjiaaGreatDoorOpenPts
import Derived.Test.YtobdohhabgnjiaaGreatDoorRev
import Derived.Test.YtobdohhabgnjiaaGreatDoorOpenPts
import Derived.Test.YtobdohhabgnjiaaGreatDoorRev
import Derived.SizedLaws
set_option linter.all false
namespace Go.Proofs.YtobdohhabgnjiaaGreatDoor
open PubFl Go.ChangeShapes Go.WideShapes Go.ChangeAt Go.RowKit Go.Joins Go.Deep

/-- a shape, as data -/
inductive Sh where
  | mk (kind : Int) (lists : List (List (Nat × Nat))) (parts : List Sh)
def Sh.kind : Sh → Int | .mk k _ _ => k
def Sh.lists : Sh → List (List (Nat × Nat)) | .mk _ l _ => l
def Sh.parts : Sh → List Sh | .mk _ _ p => p

def big : Nat := 8796093022207
/-- a cell that holds a list of points -/
def LstIn (w : World) (v : Value) (ps : List (Nat × Nat)) : Prop := ∃ a cap, v = .slice a ps.length cap ∧ ps.length ≤ big ∧ PtsIn w a ps ∧ Bits ps
theorem LstIn.kp {w w' : World} {v : Value} {ps : List (Nat × Nat)} (h : LstIn w v ps) (k : Kp w w') : LstIn w' v ps := by
  obtain ⟨a, cap, hv, hn, hp, hb⟩ := h
  exact ⟨a, cap, hv, hn, hp.kp k, hb⟩
/-- a cell that holds lists of points -/
def LissIn (w : World) (v : Value) (ls : List (List (Nat × Nat))) : Prop :=
  ∃ a cap, v = .slice a ls.length cap ∧ ls.length ≤ min big cap ∧ (ls = [] ∨ ∃ b off, a = some ⟨b, off, none⟩ ∧ b < w.heap.size ∧ ∀ (i : Nat) (h : i < ls.length), ∃ x, w.cell? ⟨b, off + i, none⟩ = some x ∧ LstIn w x (ls[i]'h))
theorem LissIn.kp {w w' : World} {v : Value} {ls : List (List (Nat × Nat))} (h : LissIn w v ls) (k : Kp w w') : LissIn w' v ls := by
  obtain ⟨a, cap, hv, hn, h⟩ := h
  refine ⟨a, cap, hv, hn, ?_⟩
  rcases h with h | ⟨b, off, rfl, hb, h⟩
  · exact .inl h
  · refine .inr ⟨b, off, rfl, Nat.lt_of_lt_of_le hb k.size, fun i hi => ?_⟩
    obtain ⟨x, hc, hx⟩ := h i hi
    exact ⟨x, Kp.cell k hc hb, hx.kp k⟩
/-- the lists and the parts of a shape, so many levels deep -/
def ShIn : Nat → World → Value → Value → Sh → Prop
  | 0, _, lv, pv, _ => (∃ a n c, lv = .slice a n c) ∧ ∃ a n c, pv = .slice a n c
  | d + 1, w, lv, pv, s => LissIn w lv s.lists ∧ ∃ a cap, pv = .slice a s.parts.length cap ∧ s.parts.length ≤ big ∧
    (s.parts = [] ∨ ∃ b off, a = some ⟨b, off, none⟩ ∧ b < w.heap.size ∧ ∀ (i : Nat) (h : i < s.parts.length), ∃ lv' pv', w.cell? ⟨b, off + i * 3, none⟩ = some (.int .i64 (s.parts[i]'h).kind) ∧
      w.cell? ⟨b, off + i * 3 + 1, none⟩ = some lv' ∧ w.cell? ⟨b, off + i * 3 + 2, none⟩ = some pv' ∧ ShIn d w lv' pv' (s.parts[i]'h))
theorem ShIn.kp {w w' : World} (k : Kp w w') : ∀ {d : Nat} {lv pv : Value} {s : Sh}, ShIn d w lv pv s → ShIn d w' lv pv s
  | 0, _, _, _, h => h
  | d + 1, lv, pv, s, h => by
    obtain ⟨hl, a, cap, hv, hn, h⟩ := h
    refine ⟨hl.kp k, a, cap, hv, hn, ?_⟩
    rcases h with h | ⟨b, off, rfl, hb, h⟩
    · exact .inl h
    · refine .inr ⟨b, off, rfl, Nat.lt_of_lt_of_le hb k.size, fun i hi => ?_⟩
      obtain ⟨lv', pv', h0, h1, h2, h3⟩ := h i hi
      exact ⟨lv', pv', Kp.cell k h0 hb, Kp.cell k h1 hb, Kp.cell k h2 hb, ShIn.kp k h3⟩

theorem ShIn.form {w : World} : ∀ {d : Nat} {lv pv : Value} {s : Sh}, ShIn d w lv pv s → (∃ a n c, lv = .slice a n c) ∧ ∃ a n c, pv = .slice a n c
  | 0, _, _, _, h => h
  | d + 1, _, _, _, ⟨⟨a, c, h, _⟩, a', c', h', _⟩ => ⟨⟨a, _, c, h⟩, a', _, c', h'⟩

section
variable {H : Type} {enc : TypeId × Value → H} {P : Program} {w : World}

/-- nothing in it is beyond the form's reach -/
def Lite (P : Program) (t : TypeId) (d : DataW H) : Prop := ∀ n ∈ d.weights P t, n ≤ reachBytes
theorem weightsAll_mem : ∀ {e : TypeId} {l : List (DataW H)} {d : DataW H} {n : Nat}, d ∈ l → n ∈ d.weights P e → n ∈ DataW.weightsAll P e l
  | e, d' :: l, d, n, h, hn => by
    simp only [DataW.weightsAll, List.mem_append]
    rcases List.mem_cons.1 h with rfl | h
    · exact .inl hn
    · exact .inr (weightsAll_mem h hn)
theorem Lite.slice {t e : TypeId} {es sp : List (DataW H)} (h : Lite P t (.slice es sp)) (hu : P.underlying t = some (.slice e)) : (es.length + sp.length) * P.bytesOf e ≤ reachBytes ∧ ∀ d ∈ es, Lite P e d := by
  unfold Lite at h
  simp only [DataW.weights, hu, List.mem_cons, List.mem_append] at h
  exact ⟨h _ (.inl rfl), fun d hd n hn => h n (.inr (.inl (weightsAll_mem hd hn)))⟩
theorem Lite.agg {t : TypeId} {fs : Array Field} {ps : List (DataW H)} (h : Lite P t (.agg ps)) (hu : P.underlying t = some (.struct fs)) {i : Nat} {f : Field} {d : DataW H} (hf : fs[i]? = some f) (hd : ps[i]? = some d) : Lite P f.type d := by
  unfold Lite at h
  simp only [DataW.weights, hu] at h
  exact fun n hn => h n (DataW.weights_mem_each (j := i) (by simp [hf]) hd n hn)
theorem add_lit (b off n : Nat) : (⟨b, off, none⟩ : Addr).add n = ⟨b, off + n, none⟩ := by
  unfold Addr.add
  by_cases hn : n = 0
  · subst hn; rfl
  · rw [if_neg hn]
theorem lt_of_cell {b o : Nat} {v : Value} (h : w.cell? ⟨b, o, none⟩ = some v) : b < w.heap.size := World.block_lt_of_cell? w ⟨b, o, none⟩ h

/-- a list of points in a cell -/
theorem open_lst {fuel : Nat} {t e : TypeId} {f0 f1 : Field} {v : Value} {x : DataW H × List MemPlace} (ht : P.underlying t = some (.slice e)) (he : P.underlying e = some (.struct #[f0, f1])) (hby : P.bytesOf e = 16)
    (ce : P.cellsOf e = 2) (o0 : f0.offset = 0) (o1 : f1.offset = 1) (c0 : P.cellsOf f0.type = 1) (c1 : P.cellsOf f1.type = 1) (e0 : P.underlying f0.type = some (.float .f64)) (e1 : P.underlying f1.type = some (.float .f64))
    (h : DataW.trod enc P w 0 (fun _ => true) true fuel t [v] = some x) (hz : Lite P t x.1) : ∃ ps, LstIn w v ps := by
  rcases open_slice_pairs ht he ce o0 o1 c0 c1 h with ⟨hcs, hx⟩ | ⟨a, len, cap, m, n, V0, V1, D0, D1, P0, P1, hcs, _, hl, hm, hmm, hx, hcell⟩
  · simp at hcs
    subst hcs
    exact ⟨[], none, 0, rfl, Nat.zero_le _, .inl rfl, fun i hi => by simp at hi⟩
  · simp at hcs
    subst hcs
    simp only [if_true] at hmm
    subst hmm
    rw [hx] at hz
    have hb := (Lite.slice (by exact hz) ht).1
    simp only [List.length_map, List.length_range, hby, reachBytes] at hb
    have hall : ∀ i, i < len → ∃ q : Nat × Nat, w.cell? (a.add (i * 2)) = some (.float .f64 q.1) ∧ w.cell? (a.add (i * 2 + 1)) = some (.float .f64 q.2) ∧ q.1 < 2 ^ 64 ∧ q.2 < 2 ^ 64 := by
      intro i hi
      obtain ⟨k0, k1, k2, k3⟩ := hcell i (by omega)
      obtain ⟨x, hx0, bx⟩ := trod_float_cell e0 k2
      obtain ⟨y, hy0, by'⟩ := trod_float_cell e1 k3
      exact ⟨(x, y), by rw [k0, hx0], by rw [k1, hy0], bx, by'⟩
    obtain ⟨q, hq⟩ := choose_lt hall
    have hlen : ((List.range len).map q).length = len := by simp
    refine ⟨(List.range len).map q, some a, _, by rw [hlen], by rw [hlen]; unfold big; omega, ?_, ?_⟩
    · by_cases h0 : len = 0
      · exact .inl (by simp [h0])
      · right
        obtain ⟨b, off, spot⟩ := a
        have hspot : spot = none := by simpa [Addr.add] using World.cell?_spot (hq 0 (by omega)).1
        subst hspot
        have hq0 := (hq 0 (by omega)).1
        rw [add_lit] at hq0
        refine ⟨b, off, rfl, lt_of_cell hq0, fun i hi => ?_⟩
        rw [hlen] at hi
        obtain ⟨g0, g1, _⟩ := hq i hi
        rw [add_lit] at g0 g1
        simp only [List.getElem_map, List.getElem_range]
        exact ⟨g0, g1⟩
    · intro i hi
      rw [hlen] at hi
      obtain ⟨_, _, g⟩ := hq i hi
      simpa using g

/-- lists of points in a cell -/
theorem open_liss {fuel : Nat} {s t e : TypeId} {f0 f1 : Field} {v : Value} {x : DataW H × List MemPlace} (hs : P.underlying s = some (.slice t)) (cs : P.cellsOf t = 1) (bs : P.bytesOf t = 24)
    (ht : P.underlying t = some (.slice e)) (he : P.underlying e = some (.struct #[f0, f1])) (hby : P.bytesOf e = 16)
    (ce : P.cellsOf e = 2) (o0 : f0.offset = 0) (o1 : f1.offset = 1) (c0 : P.cellsOf f0.type = 1) (c1 : P.cellsOf f1.type = 1) (e0 : P.underlying f0.type = some (.float .f64)) (e1 : P.underlying f1.type = some (.float .f64))
    (h : DataW.trod enc P w 0 (fun _ => true) true fuel s [v] = some x) (hz : Lite P s x.1) : ∃ ls, LissIn w v ls := by
  rcases open_slice hs h with ⟨hcs, hx⟩ | ⟨a, len, cap, m, n, D, Pl, hcs, _, hl, hm, hmm, hx, hcell⟩
  · simp at hcs
    subst hcs
    exact ⟨[], none, 0, rfl, Nat.zero_le _, .inl rfl⟩
  · simp at hcs
    subst hcs
    simp only [if_true] at hmm
    subst hmm
    rw [hx] at hz
    obtain ⟨hb, hd⟩ := Lite.slice (by exact hz) hs
    simp only [List.length_map, List.length_range, bs, reachBytes] at hb
    have hall : ∀ i, i < len → ∃ q : Value × List (Nat × Nat), w.cell? (a.add i) = some q.1 ∧ LstIn w q.1 q.2 := by
      intro i hi
      obtain ⟨cs', g0, g1⟩ := hcell i (by omega)
      rw [cs, Nat.mul_one] at g0
      obtain ⟨_, g2, g3⟩ := World.cells?_some g0
      match cs', g2 with
      | [u], _ =>
        have e0' := g3 0 (by omega)
        obtain ⟨ps, hps⟩ := open_lst ht he hby ce o0 o1 c0 c1 e0 e1 g1 (hd _ (List.mem_map.2 ⟨i, List.mem_range.2 hi, rfl⟩))
        refine ⟨(u, ps), ?_, hps⟩
        rw [add_add, Nat.add_zero] at e0'
        simpa using e0'
    obtain ⟨q, hq⟩ := choose_lt hall
    have hlen : ((List.range len).map fun i => (q i).2).length = len := by simp
    refine ⟨(List.range len).map fun i => (q i).2, some a, _, by rw [hlen], by rw [hlen]; unfold big; omega, ?_⟩
    by_cases h0 : len = 0
    · exact .inl (by simp [h0])
    · right
      obtain ⟨b, off, spot⟩ := a
      have hspot : spot = none := by simpa [Addr.add] using World.cell?_spot (hq 0 (by omega)).1
      subst hspot
      have hq0 := (hq 0 (by omega)).1
      rw [add_lit] at hq0
      refine ⟨b, off, rfl, lt_of_cell hq0, fun i hi => ?_⟩
      rw [hlen] at hi
      obtain ⟨g0, g1⟩ := hq i hi
      rw [add_lit] at g0
      refine ⟨_, g0, ?_⟩
      simpa using g1

/-- what the type of shapes is made of -/
structure ShTy (P : Program) (S : TypeId) (g0 g1 g2 : Field) (t e : TypeId) (f0 f1 : Field) : Prop where
  uS : P.underlying S = some (.struct #[g0, g1, g2])
  cS : P.cellsOf S = 3
  bS : P.bytesOf S = 56
  p0 : g0.offset = 0
  p1 : g1.offset = 1
  p2 : g2.offset = 2
  k0 : P.cellsOf g0.type = 1
  k1 : P.cellsOf g1.type = 1
  k2 : P.cellsOf g2.type = 1
  uI : P.underlying g0.type = some (.int .i64)
  uL : P.underlying g1.type = some (.slice t)
  uP : P.underlying g2.type = some (.slice S)
  ct : P.cellsOf t = 1
  bt : P.bytesOf t = 24
  ut : P.underlying t = some (.slice e)
  ue : P.underlying e = some (.struct #[f0, f1])
  be : P.bytesOf e = 16
  ce : P.cellsOf e = 2
  o0 : f0.offset = 0
  o1 : f1.offset = 1
  c0 : P.cellsOf f0.type = 1
  c1 : P.cellsOf f1.type = 1
  e0 : P.underlying f0.type = some (.float .f64)
  e1 : P.underlying f1.type = some (.float .f64)

/-- a shape that came in, opened so many levels deep -/
theorem open_sh {S : TypeId} {g0 g1 g2 : Field} {t e : TypeId} {f0 f1 : Field} (T : ShTy P S g0 g1 g2 t e f0 f1) : ∀ (d : Nat) {fuel : Nat} {cs : List Value} {x : DataW H × List MemPlace},
    DataW.trod enc P w 0 (fun _ => true) true fuel S cs = some x → Lite P S x.1 → ∃ (lv pv : Value) (s : Sh), cs = [.int .i64 s.kind, lv, pv] ∧ ShIn d w lv pv s := by
  intro d
  induction d with
  | zero =>
    intro fuel cs x h hz
    obtain ⟨xs, n, rfl, rfl, hlen, hxl, hf⟩ := DataW.trod_struct T.uS h
    rw [T.cS] at hlen
    match xs, hxl, cs, hlen with
    | [y0, y1, y2], _, [v0, v1, v2], _ =>
      have h0 := hf 0 g0 rfl
      have h1 := hf 1 g1 rfl
      have h2 := hf 2 g2 rfl
      simp [T.p0, T.k0] at h0
      simp [T.p1, T.k1] at h1
      simp [T.p2, T.k2] at h2
      obtain ⟨n', hn, _, _⟩ := DataW.trod_int T.uI h0
      simp at hn
      subst hn
      refine ⟨v1, v2, .mk n' [] [], rfl, ?_, ?_⟩
      · rcases open_slice T.uL h1 with ⟨hcs, _⟩ | ⟨a, len, cap, m, n2, D, Pl, hcs, _⟩
        · simp at hcs; exact ⟨_, _, _, hcs⟩
        · simp at hcs; exact ⟨_, _, _, hcs⟩
      · rcases open_slice T.uP h2 with ⟨hcs, _⟩ | ⟨a, len, cap, m, n2, D, Pl, hcs, _⟩
        · simp at hcs; exact ⟨_, _, _, hcs⟩
        · simp at hcs; exact ⟨_, _, _, hcs⟩
  | succ d ih =>
    intro fuel cs x h hz
    obtain ⟨xs, n, rfl, rfl, hlen, hxl, hf⟩ := DataW.trod_struct T.uS h
    rw [T.cS] at hlen
    match xs, hxl, cs, hlen with
    | [y0, y1, y2], _, [v0, v1, v2], _ =>
      have h0 := hf 0 g0 rfl
      have h1 := hf 1 g1 rfl
      have h2 := hf 2 g2 rfl
      simp [T.p0, T.k0] at h0
      simp [T.p1, T.k1] at h1
      simp [T.p2, T.k2] at h2
      obtain ⟨n', hn, _, _⟩ := DataW.trod_int T.uI h0
      simp at hn
      subst hn
      have z1 : Lite P g1.type y1.1 := Lite.agg (i := 1) hz T.uS rfl rfl
      have z2 : Lite P g2.type y2.1 := Lite.agg (i := 2) hz T.uS rfl rfl
      obtain ⟨ls, hls⟩ := open_liss T.uL T.ct T.bt T.ut T.ue T.be T.ce T.o0 T.o1 T.c0 T.c1 T.e0 T.e1 h1 z1
      rcases open_slice T.uP h2 with ⟨hcs, hx⟩ | ⟨a, len, cap, m, n2, D, Pl, hcs, _, hl, hm, hmm, hx, hcell⟩
      · simp at hcs
        subst hcs
        exact ⟨v1, _, .mk n' ls [], rfl, hls, none, 0, rfl, Nat.zero_le _, .inl rfl⟩
      · simp at hcs
        subst hcs
        simp only [if_true] at hmm
        subst hmm
        rw [hx] at z2
        obtain ⟨hb, hd⟩ := Lite.slice (by exact z2) T.uP
        simp only [List.length_map, List.length_range, T.bS, reachBytes] at hb
        have hall : ∀ i, i < len → ∃ q : Value × Value × Sh, w.cell? (a.add (i * 3)) = some (.int .i64 q.2.2.kind) ∧ w.cell? (a.add (i * 3 + 1)) = some q.1 ∧ w.cell? (a.add (i * 3 + 2)) = some q.2.1 ∧ ShIn d w q.1 q.2.1 q.2.2 := by
          intro i hi
          obtain ⟨cs', g0', g1'⟩ := hcell i (by omega)
          rw [T.cS] at g0'
          obtain ⟨_, g2', g3⟩ := World.cells?_some g0'
          obtain ⟨lv, pv, s, rfl, hs⟩ := ih g1' (hd _ (List.mem_map.2 ⟨i, List.mem_range.2 hi, rfl⟩))
          have c0 := g3 0 (by omega)
          have c1 := g3 1 (by omega)
          have c2 := g3 2 (by omega)
          rw [add_add] at c0 c1 c2
          exact ⟨(lv, pv, s), by simpa using c0, by simpa using c1, by simpa using c2, hs⟩
        have : Inhabited Sh := ⟨.mk 0 [] []⟩
        obtain ⟨q, hq⟩ := choose_lt hall
        have hlen : ((List.range len).map fun i => (q i).2.2).length = len := by simp
        refine ⟨v1, .slice (some a) len _, .mk n' ls ((List.range len).map fun i => (q i).2.2), rfl, hls, some a, _, by simp only [Sh.parts]; rw [hlen], by simp only [Sh.parts]; rw [hlen]; unfold big; omega, ?_⟩
        by_cases h0 : len = 0
        · exact .inl (by simp [h0, Sh.parts])
        · right
          obtain ⟨b, off, spot⟩ := a
          have hspot : spot = none := by simpa [Addr.add] using World.cell?_spot (hq 0 (by omega)).1
          subst hspot
          have hq0 := (hq 0 (by omega)).1
          rw [add_lit] at hq0
          refine ⟨b, off, rfl, lt_of_cell hq0, fun i hi => ?_⟩
          simp only [Sh.parts] at hi ⊢
          rw [hlen] at hi
          obtain ⟨k0, k1, k2, k3⟩ := hq i hi
          rw [add_lit] at k0 k1 k2
          refine ⟨_, _, ?_, k1, k2, ?_⟩
          · simpa using k0
          · simpa using k3
end

/-- a block of three cells -/
structure Box3 (w : World) (g : Nat) (a b c : Value) : Prop where
  hi : g < w.heap.size
  c0 : w.cell? ⟨g, 0, none⟩ = some a
  c1 : w.cell? ⟨g, 1, none⟩ = some b
  c2 : w.cell? ⟨g, 2, none⟩ = some c
theorem Box3.kp {w w' : World} {g : Nat} {a b c : Value} (h : Box3 w g a b c) (k : Kp w w') : Box3 w' g a b c :=
  ⟨Nat.lt_of_lt_of_le h.hi k.size, Kp.cell k h.c0 h.hi, Kp.cell k h.c1 h.hi, Kp.cell k h.c2 h.hi⟩
theorem Box3.new (w : World) (a b c : Value) (t : TypeId) : Box3 (w.alloc (.cells #[a, b, c] t)) w.heap.size a b c :=
  ⟨by simp, by simp, by simp, by simp⟩
theorem Box3.new' {w : World} {g : Nat} (h : g = w.heap.size) (a b c : Value) (t : TypeId) : Box3 (w.alloc (.cells #[a, b, c] t)) g a b c := h ▸ Box3.new w a b c t
theorem LissIn.get {w : World} {v : Value} {ls : List (List (Nat × Nat))} (h : LissIn w v ls) : ∃ a cap, v = .slice a ls.length cap ∧ ls.length ≤ big ∧
    (∀ (i : Nat) (hi : i < ls.length), ∃ b off a' cap', a = some ⟨b, off, none⟩ ∧ b < w.heap.size ∧ w.cell? ⟨b, off + i, none⟩ = some (.slice a' (ls[i]'hi).length cap') ∧ (ls[i]'hi).length ≤ big ∧ PtsIn w a' (ls[i]'hi) ∧ Bits (ls[i]'hi)) := by
  obtain ⟨a, cap, hv, hn, h⟩ := h
  refine ⟨a, cap, hv, Nat.le_trans hn (Nat.min_le_left _ _), fun i hi => ?_⟩
  rcases h with h | ⟨b, off, rfl, hb, h⟩
  · subst h; simp at hi
  · obtain ⟨x, hc, a', cap', rfl, hn', hp, hbits⟩ := h i hi
    exact ⟨b, off, a', cap', rfl, hb, hc, hn', hp, hbits⟩
theorem LissIn.cap {w : World} {v : Value} {ls : List (List (Nat × Nat))} (h : LissIn w v ls) : ∃ a cap, v = .slice a ls.length cap ∧ ls.length ≤ cap := by
  obtain ⟨a, cap, hv, hn, _⟩ := h
  exact ⟨a, cap, hv, Nat.le_trans hn (Nat.min_le_right _ _)⟩
end Go.Proofs.YtobdohhabgnjiaaGreatDoor
