/-
  A list of points that came in, opened.
-/
import Derived.Test.YtnmokjgiilfdlaaGreatDoorOpen
import Derived.Test.YtnmokjgiilfdlaaGreatDoorLine
import Derived.Deep.SlicePairs
set_option linter.all false
namespace Go.Proofs.YtnmokjgiilfdlaaGreatDoor
open PubFl Go.ChangeShapes Go.WideShapes Go.ChangeAt Go.RowKit Go.Joins Go.Deep

section
variable {H : Type} {enc : TypeId × Value → H} {P : Program} {w : World}
theorem open_pts {r : Reach} {b0 : Nat} {t e : TypeId} {f0 f1 : Field} {v : Value} {d : DataW H} {p : List MemPlace} {held : Bool} (ht : P.underlying t = some (.slice e)) (he : P.underlying e = some (.struct #[f0, f1]))
    (ce : P.cellsOf e = 2) (o0 : f0.offset = 0) (o1 : f1.offset = 1) (c0 : P.cellsOf f0.type = 1) (c1 : P.cellsOf f1.type = 1) (e0 : P.underlying f0.type = some (.float .f64)) (e1 : P.underlying f1.type = some (.float .f64))
    (hv : Value.okWide P w r b0 t v) (h : DataW.Trod enc P w 0 (fun _ => true) held t v d p) :
    ∃ a cap ps, v = .slice a ps.length cap ∧ ps.length ≤ maxLen ∧ PtsIn w a ps ∧ Bits ps := by
  obtain ⟨a1, len, cap, rfl⟩ := okWide_slice ht hv
  have hlt := lt_of_trod h
  obtain ⟨fuel, hf⟩ := h
  rcases open_slice_pairs ht he ce o0 o1 c0 c1 hf with ⟨hcs, hx⟩ | ⟨a, len', cap', m, n, V0, V1, D0, D1, P0, P1, hcs, _, hl, hm, hmm, hx, hcell⟩
  · simp [Value.cells] at hcs
    obtain ⟨rfl, rfl, rfl⟩ := hcs
    exact ⟨none, 0, [], rfl, Nat.zero_le _, .inl rfl, fun i hi => by simp at hi⟩
  · simp [Value.cells] at hcs
    obtain ⟨rfl, rfl, rfl⟩ := hcs
    simp only [if_true] at hmm
    subst hmm
    simp only [Prod.mk.injEq] at hx
    have hall : ∀ i, i < len → ∃ q : Nat × Nat, w.cell? (a.add (i * 2)) = some (.float .f64 q.1) ∧ w.cell? (a.add (i * 2 + 1)) = some (.float .f64 q.2) ∧ q.1 < 2 ^ 64 ∧ q.2 < 2 ^ 64 := by
      intro i hi
      obtain ⟨k0, k1, k2, k3⟩ := hcell i (by omega)
      obtain ⟨x, hx0, bx⟩ := trod_float_cell e0 k2
      obtain ⟨y, hy0, by'⟩ := trod_float_cell e1 k3
      exact ⟨(x, y), by rw [k0, hx0], by rw [k1, hy0], bx, by'⟩
    obtain ⟨q, hq⟩ := choose_lt hall
    have hlen : ((List.range len).map q).length = len := by simp
    refine ⟨some a, _, (List.range len).map q, by rw [hlen], by rw [hlen]; omega, ?_, ?_⟩
    · by_cases h0 : len = 0
      · exact .inl (by simp [h0])
      · right
        obtain ⟨b, off, spot⟩ := a
        have hspot : spot = none := by simpa [Addr.add] using World.cell?_spot (hq 0 (by omega)).1
        subst hspot
        refine ⟨b, off, rfl, ?_, fun i hi => ?_⟩
        · have c := (hq 0 (by omega)).1
          rcases Nat.lt_or_ge b w.heap.size with g | g
          · exact g
          · simp [World.cell?, Addr.add, Array.getElem?_eq_none g] at c
        · rw [hlen] at hi
          obtain ⟨g0, g1, _⟩ := hq i hi
          have ea : ∀ n, (⟨b, off, none⟩ : Addr).add n = ⟨b, off + n, none⟩ := by
            intro n
            unfold Addr.add
            by_cases hn : n = 0
            · subst hn; rfl
            · rw [if_neg hn]
          rw [ea] at g0 g1
          simp only [List.getElem_map, List.getElem_range]
          exact ⟨g0, g1⟩
    · intro i hi
      rw [hlen] at hi
      obtain ⟨_, _, g⟩ := hq i hi
      simpa using g
end
end Go.Proofs.YtnmokjgiilfdlaaGreatDoor
