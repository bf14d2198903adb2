/-
  What the rows say of the listed error variables: each holds an error, in memory of its own.
-/
import Derived.Test.YtobdohhabgnjiaaGreatDoorMDecB
import Derived.Test.YtobdohhabgnjiaaGreatDoorRows
import Derived.LaidLaws
import Derived.LaidMore
import Derived.ChangeVars
import Derived.JoinedOf
set_option linter.unnecessarySimpa false
set_option linter.all false
namespace Go.Proofs.YtobdohhabgnjiaaGreatDoor
open PubFl Go.RowKit

theorem typeErrPtr (u : TypeId) (h : Tryz.prog.typeName? 3 u = some "*errors.errorString") : u = 191 :=
  typeName_ptr_named (nm := "errors.errorString") (by rw [show "*" ++ "errors.errorString" = "*errors.errorString" by decide]; kernel_rfl) (by kernel_rfl) (by decide) u (by rw [show "*" ++ "errors.errorString" = "*errors.errorString" by decide]; exact h)
theorem cell_ltN {w : World} {g o : Nat} {v : Value} (h : w.cell? ⟨g, o, none⟩ = some v) : g < w.heap.size := by
  rcases Nat.lt_or_ge g w.heap.size with c | c
  · exact c
  · unfold World.cell? at h
    rw [Array.getElem?_eq_none c] at h
    cases h
set_option maxRecDepth 100000 in
theorem gle_of_laid {W : World} {all : List MemPlace} (hrows : ∀ b off, MemPlace.cell b off ∈ all → (∃ c t, W.heap[b]? = some (.cells c t (0, 0))) ∧ ∀ u v, W.cell? ⟨b, off, none⟩ = some (.iface u v) → Value.okWide Tryz.prog W .any 0 u v) (n : String) (text : List UInt8) (g : Nat) (hg : Tryz.prog.globalNamed n = some g) (ht : (Tryz.prog.globals[g]?).map (·.type) = some 55) :
    ∀ (ls : List (String × DataW Unit)) (ps : List MemPlace), (∀ x ∈ ps, x ∈ all) → DataW.LaidVars Tryz.prog W ls ps → (n, .iface "*errors.errorString" (.ptr (.agg [.lit (.string text)]))) ∈ ls → GlE W g
  | [], _, _, _, hm => by cases hm
  | (n', d') :: ls, ps, hsub, h, hm => by
    obtain ⟨g', t, cs, fuel, p, q, hg', ht', hv, hd, hr, rfl⟩ := h
    rcases List.mem_cons.1 hm with hm | hm
    · injection hm with e1 e2
      subst e1 e2
      obtain rfl := Option.some.inj (hg.symm.trans hg')
      obtain rfl := Option.some.inj (ht.symm.trans ht')
      obtain ⟨l⟩ := cs
      have hc0 := World.var?_cell hg hv 0
      have ok : ∀ u v, l = [.iface u v] → Value.okWide Tryz.prog W .any 0 u v := fun u v e => by
        subst e
        exact (hrows g 0 (hsub _ (by simp [MemPlace.row]))).2 u v (by simpa using hc0)
      obtain ⟨a, s, rfl, hc, hs, hz, rfl⟩ := errorString_of_trod Tryz.underlying55 typeErrPtr Tryz.underlying191 Tryz.underlying193 rfl rfl Tryz.underlying9 (show Tryz.prog.cellsOf 193 = 1 by kernel_rfl) (show Tryz.prog.cellsOf 9 = 1 by kernel_rfl) hd ok
      obtain ⟨c, t, hb⟩ := (hrows a.block a.off (hsub _ (by simp [MemPlace.row]))).1
      have hc0' : W.cell? ⟨g, 0, none⟩ = some (.iface 191 (.pointer (some a))) := by simpa using hc0
      refine ⟨cell_ltN hc0', a, hc0', ?_, c, t, hb⟩
      rcases Nat.lt_or_ge a.block W.heap.size with k | k
      · exact k
      · rw [Array.getElem?_eq_none k] at hb; cases hb
    · exact gle_of_laid hrows n text g hg ht ls q (fun x hx => hsub x (by simp [hx])) hr hm
theorem vars_length {H : Type} {enc : TypeId × Value → H} {P : Program} {w : World} {spare : Nat → Bool} : ∀ {ns : List String} {ds : List (DataW H)} {q : List MemPlace}, DataW.TrodVars enc P w spare ns ds q → ds.length = ns.length
  | [], [], _, _ => rfl
  | [], _ :: _, _, h => h.elim
  | _ :: _, [], _, h => h.elim
  | _ :: ns, _ :: ds, _, h => by
    obtain ⟨_, _, _, _, _, _, _, _, _, _, hs, _⟩ := h
    show ds.length + 1 = ns.length + 1
    rw [vars_length hs]
set_option maxRecDepth 100000 in
theorem gls_of_laid {W : World} (h : laidMetH Tryz.prog Rows.fnStreamRow.laid W) : Gls W := by
  rw [MakeChecks.laidMetH_plain _ _ _ (by kernel_rfl)] at h
  obtain ⟨ps, h, _, hrows⟩ := h
  exact ⟨gle_of_laid hrows "io.EOF" _ 9 (by kernel_rfl) (by kernel_rfl) _ ps (fun _ h => h) h (by apply List.Mem.tail; exact List.Mem.head _),
    gle_of_laid hrows "io.ErrUnexpectedEOF" _ 10 (by kernel_rfl) (by kernel_rfl) _ ps (fun _ h => h) h (by apply List.Mem.tail; apply List.Mem.tail; exact List.Mem.head _),
    gle_of_laid hrows "loop.example/pub-g01503/pub/orbwkbcommon.ErrNotWKB" _ 3 (by kernel_rfl) (by kernel_rfl) _ ps (fun _ h => h) h (by apply List.Mem.tail; apply List.Mem.tail; apply List.Mem.tail; apply List.Mem.tail; exact List.Mem.head _),
    gle_of_laid hrows "loop.example/pub-g01503/pub/orbwkbcommon.ErrUnsupportedGeometry" _ 0 (by kernel_rfl) (by kernel_rfl) _ ps (fun _ h => h) h (by apply List.Mem.tail; apply List.Mem.tail; apply List.Mem.tail; apply List.Mem.tail; apply List.Mem.tail; apply List.Mem.tail; apply List.Mem.tail; exact List.Mem.head _),
    gle_of_laid hrows "loop.example/pub-g01503/pub/orbwkbcommon.ErrUnsupportedDataType" _ 1 (by kernel_rfl) (by kernel_rfl) _ ps (fun _ h => h) h (by apply List.Mem.tail; apply List.Mem.tail; apply List.Mem.tail; exact List.Mem.head _),
    gle_of_laid hrows "loop.example/pub-g01503/pub/orbwkbcommon.ErrNotWKBHeader" _ 5 (by kernel_rfl) (by kernel_rfl) _ ps (fun _ h => h) h (by apply List.Mem.tail; apply List.Mem.tail; apply List.Mem.tail; apply List.Mem.tail; apply List.Mem.tail; exact List.Mem.head _),
    gle_of_laid hrows "loop.example/pub-g01503/pub/orbwkbcommon.ErrIncorrectGeometry" _ 6 (by kernel_rfl) (by kernel_rfl) _ ps (fun _ h => h) h (by apply List.Mem.tail; apply List.Mem.tail; apply List.Mem.tail; apply List.Mem.tail; apply List.Mem.tail; apply List.Mem.tail; exact List.Mem.head _),
    gle_of_laid hrows "loop.example/pub-g01503/pub/orbwkb.ErrUnsupportedDataType" _ 2 (by kernel_rfl) (by kernel_rfl) _ ps (fun _ h => h) h (by apply List.Mem.tail; apply List.Mem.tail; apply List.Mem.tail; apply List.Mem.tail; apply List.Mem.tail; apply List.Mem.tail; apply List.Mem.tail; apply List.Mem.tail; exact List.Mem.head _),
    gle_of_laid hrows "loop.example/pub-g01503/pub/orbwkb.ErrNotWKB" _ 4 (by kernel_rfl) (by kernel_rfl) _ ps (fun _ h => h) h (by apply List.Mem.tail; apply List.Mem.tail; apply List.Mem.tail; apply List.Mem.tail; apply List.Mem.tail; apply List.Mem.tail; apply List.Mem.tail; apply List.Mem.tail; apply List.Mem.tail; exact List.Mem.head _),
    gle_of_laid hrows "loop.example/pub-g01503/pub/orbwkb.ErrIncorrectGeometry" _ 7 (by kernel_rfl) (by kernel_rfl) _ ps (fun _ h => h) h (by apply List.Mem.tail; apply List.Mem.tail; apply List.Mem.tail; apply List.Mem.tail; apply List.Mem.tail; apply List.Mem.tail; apply List.Mem.tail; apply List.Mem.tail; apply List.Mem.tail; apply List.Mem.tail; exact List.Mem.head _),
    gle_of_laid hrows "loop.example/pub-g01503/pub/orbwkb.ErrUnsupportedGeometry" _ 8 (by kernel_rfl) (by kernel_rfl) _ ps (fun _ h => h) h (by apply List.Mem.tail; apply List.Mem.tail; apply List.Mem.tail; apply List.Mem.tail; apply List.Mem.tail; apply List.Mem.tail; apply List.Mem.tail; apply List.Mem.tail; apply List.Mem.tail; apply List.Mem.tail; apply List.Mem.tail; exact List.Mem.head _)⟩
end Go.Proofs.YtobdohhabgnjiaaGreatDoor
