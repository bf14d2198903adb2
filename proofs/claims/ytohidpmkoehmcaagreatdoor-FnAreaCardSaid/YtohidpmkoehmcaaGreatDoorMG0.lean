/-
  Arguments opened: a point by value, a list of points. And the frame of a law's proof, but for the walk.
  A list of points that came in, opened.
-/
import Derived.Test.YtohidpmkoehmcaaGreatDoorRows
import Derived.Test.YtohidpmkoehmcaaGreatDoorWk
import Derived.WalkKit
import Derived.ProofKit
import Derived.OpenShut
import Derived.ChangeOld
import Derived.Below
import Derived.Lib.SmallJoins
import Derived.Deep.Slices
import Derived.Deep.Fields
import Derived.Laws.Cover2
import Derived.Test.YtohidpmkoehmcaaGreatDoorLine
import Derived.Deep.SlicePairs
set_option linter.all false
namespace Go.Proofs.YtohidpmkoehmcaaGreatDoor
open PubFl Go.ChangeShapes Go.WideShapes Go.ChangeAt Go.RowKit Go.Joins Go.Deep

theorem own : ownKnob Tryz.prog.godebug = none := by kernel_rfl
theorem laidOut : laidOutB Tryz.prog = true := by kernel_rfl

section
variable {H : Type} {enc : TypeId × Value → H} {P : Program} {w : World} {base : Nat} {spare : Nat → Bool} {held : Bool}

theorem trod_float_cell {t : TypeId} {n : Nat} {v : Value} {y : DataW H × List MemPlace} (ht : P.underlying t = some (.float .f64)) (h : DataW.trod enc P w base spare held n t [v] = some y) : ∃ b, v = .float .f64 b ∧ b < 2 ^ 64 := by
  cases n with
  | zero => simp [DataW.trod] at h
  | succ n =>
    simp only [DataW.trod, ht] at h
    split at h <;> simp_all
    rename_i k' k'' b hk
    obtain ⟨⟨_, hw⟩, _⟩ := h
    rw [← hk] at hw
    simpa [Lit.wf] using hw

/-- a point by value -/
theorem open_pt {r : Reach} {b0 : Nat} {t : TypeId} {f0 f1 : Field} {v : Value} {d : DataW H} {p : List MemPlace} (hs : P.underlying t = some (.struct #[f0, f1])) (hone : oneCellFields P #[f0, f1] = true) (hC : P.cellsOf t = 2)
    (e0 : P.underlying f0.type = some (.float .f64)) (e1 : P.underlying f1.type = some (.float .f64))
    (hv : Value.okWide P w r b0 t v) (h : DataW.Trod enc P w base spare held t v d p) : ∃ x y, v = .agg #[.float .f64 x, .float .f64 y] ∧ x < 2 ^ 64 ∧ y < 2 ^ 64 := by
  obtain ⟨v0, v1, y0, y1, n, rfl, _, _, h0, h1⟩ := open_agg2 hs hone hC hv h
  obtain ⟨x, rfl, hx⟩ := trod_float_cell e0 h0
  obtain ⟨y, rfl, hy⟩ := trod_float_cell e1 h1
  exact ⟨x, y, rfl, hx, hy⟩
theorem open_fl {r : Reach} {b0 : Nat} {t : TypeId} {v : Value} {d : DataW H} {p : List MemPlace} (hs : P.underlying t = some (.float .f64))
    (hv : Value.okWide P w r b0 t v) (h : DataW.Trod enc P w base spare held t v d p) : ∃ x, v = .float .f64 x ∧ x < 2 ^ 64 := by
  obtain ⟨x, rfl, _, _, hw⟩ := open_float hs hv h
  simp [Lit.wf] at hw
  exact ⟨x, rfl, hw⟩
theorem int_wf {n : Int} (h : (Lit.int .i64 n).wf = true) : -9223372036854775808 ≤ n ∧ n ≤ 9223372036854775807 := by
  simpa [Lit.wf, IntKind.min, IntKind.max, IntKind.signed, IntKind.bits] using h
theorem lt_of_trod {t : TypeId} {v : Value} {d : DataW H} {p : List MemPlace} {held : Bool} (h : DataW.Trod enc P w 0 (fun _ => true) held t v d p) : ∀ x ∈ p, x.block < w.heap.size := by
  obtain ⟨m, hm⟩ := h
  exact DataW.trod_lt m _ _ _ hm
end
end Go.Proofs.YtohidpmkoehmcaaGreatDoor

set_option linter.all false
namespace Go.Proofs.YtohidpmkoehmcaaGreatDoor
open PubFl Go.ChangeShapes Go.WideShapes Go.ChangeAt Go.RowKit Go.Joins Go.Deep

section
variable {H : Type} {enc : TypeId × Value → H} {P : Program} {w : World}
theorem open_pts {r : Reach} {b0 : Nat} {t e : TypeId} {f0 f1 : Field} {v : Value} {d : DataW H} {p : List MemPlace} {held : Bool} (ht : P.underlying t = some (.slice e)) (he : P.underlying e = some (.struct #[f0, f1]))
    (ce : P.cellsOf e = 2) (o0 : f0.offset = 0) (o1 : f1.offset = 1) (c0 : P.cellsOf f0.type = 1) (c1 : P.cellsOf f1.type = 1) (e0 : P.underlying f0.type = some (.float .f64)) (e1 : P.underlying f1.type = some (.float .f64))
    (hv : Value.okWide P w r b0 t v) (h : DataW.Trod enc P w 0 (fun _ => true) held t v d p) :
    ∃ a cap ps, v = .slice a ps.length cap ∧ ps.length ≤ maxLen ∧ PtsIn w a ps ∧ Bits ps := by
  obtain ⟨a1, len, cap, rfl⟩ := okWide_slice ht hv
  have hlt := lt_of_trod h
  obtain ⟨fuel, hf⟩ := h
  rcases open_slice_pairs ht he ce o0 o1 c0 c1 hf with ⟨hcs, hx⟩ | ⟨a, len', cap', m, n, V0, V1, D0, D1, P0, P1, hcs, _, hl, hm, hmm, hx, hcell⟩
  · simp [Value.cells] at hcs
    obtain ⟨rfl, rfl, rfl⟩ := hcs
    exact ⟨none, 0, [], rfl, Nat.zero_le _, .inl rfl, fun i hi => by simp at hi⟩
  · simp [Value.cells] at hcs
    obtain ⟨rfl, rfl, rfl⟩ := hcs
    simp only [if_true] at hmm
    subst hmm
    simp only [Prod.mk.injEq] at hx
    have hall : ∀ i, i < len → ∃ q : Nat × Nat, w.cell? (a.add (i * 2)) = some (.float .f64 q.1) ∧ w.cell? (a.add (i * 2 + 1)) = some (.float .f64 q.2) ∧ q.1 < 2 ^ 64 ∧ q.2 < 2 ^ 64 := by
      intro i hi
      obtain ⟨k0, k1, k2, k3⟩ := hcell i (by omega)
      obtain ⟨x, hx0, bx⟩ := trod_float_cell e0 k2
      obtain ⟨y, hy0, by'⟩ := trod_float_cell e1 k3
      exact ⟨(x, y), by rw [k0, hx0], by rw [k1, hy0], bx, by'⟩
    obtain ⟨q, hq⟩ := choose_lt hall
    have hlen : ((List.range len).map q).length = len := by simp
    refine ⟨some a, _, (List.range len).map q, by rw [hlen], by rw [hlen]; omega, ?_, ?_⟩
    · by_cases h0 : len = 0
      · exact .inl (by simp [h0])
      · right
        obtain ⟨b, off, spot⟩ := a
        have hspot : spot = none := by simpa [Addr.add] using World.cell?_spot (hq 0 (by omega)).1
        subst hspot
        refine ⟨b, off, rfl, ?_, fun i hi => ?_⟩
        · have c := (hq 0 (by omega)).1
          rcases Nat.lt_or_ge b w.heap.size with g | g
          · exact g
          · simp [World.cell?, Addr.add, Array.getElem?_eq_none g] at c
        · rw [hlen] at hi
          obtain ⟨g0, g1, _⟩ := hq i hi
          have ea : ∀ n, (⟨b, off, none⟩ : Addr).add n = ⟨b, off + n, none⟩ := by
            intro n
            unfold Addr.add
            by_cases hn : n = 0
            · subst hn; rfl
            · rw [if_neg hn]
          rw [ea] at g0 g1
          simp only [List.getElem_map, List.getElem_range]
          exact ⟨g0, g1⟩
    · intro i hi
      rw [hlen] at hi
      obtain ⟨_, _, g⟩ := hq i hi
      simpa using g
end
end Go.Proofs.YtohidpmkoehmcaaGreatDoor
