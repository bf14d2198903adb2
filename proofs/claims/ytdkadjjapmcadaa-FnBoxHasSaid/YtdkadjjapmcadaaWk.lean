/-
  Plain facts on worlds: 'ext w u' is a world that keeps all that w has. What a call that only makes memory leaves is such a world.
  A region that draws its order, whose operations read old memory and call such functions, is walked once.
-/
import Derived.Below
import Derived.Deep.Quiet
import Derived.WalkSmall
import Derived.Laws.NewBlocks
import Derived.KernelRfl
namespace PubFl
open Go Go.RowKit

open Classical in
/-- u, if it keeps all that w has; else w -/
noncomputable def ext (w u : World) : World := if Below w.heap.size w u then u else w

theorem ext_below (w u : World) : Below w.heap.size w (ext w u) := by
  unfold ext
  split
  · assumption
  · exact Below.refl _ _
theorem ext_of {w u : World} (h : Below w.heap.size w u) : u = ext w u := by unfold ext; rw [if_pos h]
theorem cell_ext {w u : World} {b o : Nat} (h : b < w.heap.size) : (ext w u).cell? ⟨b, o, none⟩ = w.cell? ⟨b, o, none⟩ := (ext_below w u).cell (p := ⟨b, o, none⟩) h
theorem frozen_ext {w u : World} {b o : Nat} (h : b < w.heap.size) : (ext w u).frozen? ⟨b, o, none⟩ = w.frozen? ⟨b, o, none⟩ := (ext_below w u).frozen (p := ⟨b, o, none⟩) h
theorem size_ext (w u : World) : w.heap.size ≤ (ext w u).heap.size := (ext_below w u).size
theorem lt_ext {w u : World} {b : Nat} (h : b < w.heap.size) : b < (ext w u).heap.size := Nat.lt_of_lt_of_le h (size_ext w u)
theorem ne_ext {w u : World} {b : Nat} (h : b < w.heap.size) : ¬ (b = (ext w u).heap.size) := Nat.ne_of_lt (lt_ext h)

/-- one step in the place of two -/
@[irreducible] noncomputable def mrg (w u u' : World) : World := ext (ext w u) u'
theorem ext_ext (w u u' : World) : ext (ext w u) u' = ext w (mrg w u u') := by
  have h : Below w.heap.size w (ext (ext w u) u') := (ext_below w u).trans ((ext_below (ext w u) u').mono (size_ext w u))
  have : mrg w u u' = ext (ext w u) u' := by unfold mrg; rfl
  rw [this]
  exact ext_of h
theorem lt_ext1 {w u : World} {b n : Nat} (h : b < w.heap.size) : b < (ext w u).heap.size + n := by have := size_ext w u; omega
theorem lt_ext2 {w u : World} {b n m : Nat} (h : b < w.heap.size) : b < (ext w u).heap.size + n + m := by have := size_ext w u; omega
theorem lt_ext3 {w u : World} {b n m k : Nat} (h : b < w.heap.size) : b < (ext w u).heap.size + n + m + k := by have := size_ext w u; omega
theorem lt_ext4 {w u : World} {b n m k l : Nat} (h : b < w.heap.size) : b < (ext w u).heap.size + n + m + k + l := by have := size_ext w u; omega

/-- what is kept from a world on -/
def Kp (a w : World) : Prop := Below a.heap.size a w
theorem Kp.refl (a : World) : Kp a a := Below.refl _ _
theorem Kp.size {a w : World} (h : Kp a w) : a.heap.size ≤ w.heap.size := Below.size h
theorem Kp.alloc {a w : World} (h : Kp a w) (o : Obj) : Kp a (w.alloc o) := Below.alloc h h.size o
theorem Kp.drew {a w : World} (h : Kp a w) : Kp a w.drew := Below.drew h
theorem Kp.drewN {a w : World} (h : Kp a w) (n : Nat) : Kp a (w.drewN n) := below_drewN h n
theorem Kp.trans {a w u : World} (h : Kp a w) (k : Kp w u) : Kp a u := Below.trans h (Below.mono k h.size)
theorem Kp.ext {a w : World} (h : Kp a w) (u : World) : Kp a (ext w u) := h.trans (ext_below w u)
theorem Kp.setCell {a w : World} (h : Kp a w) {p : Addr} (hp : a.heap.size ≤ p.block) (v : Value) : Kp a (w.setCell p v) := Below.setCell h hp v

/-- A call hands back v, and keeps all memory. -/
def Ret (w : World) (v : Value) (e : Ending) (w' : World) : Prop := e = .returned v ∧ ∃ u, w' = ext w u
theorem Ret.mk {w w' : World} {v : Value} {e : Ending} (he : e = .returned v) (h : Kp w w') : Ret w v e w' := ⟨he, w', ext_of h⟩

/-- .. as an operation of a region that draws its order -/
theorem Ret.quiet {P : Program} {f : FuncId} {args : Array Value} {w u : World} {v : Value} (h : Calls P f args (ext w u) (Ret (ext w u) v)) :
    Calls P f args (ext w u) fun e w'' => e = .returned v ∧ ∃ u', w'' = ext w u' :=
  h.mono fun _ w' ⟨he, u', hw⟩ => ⟨he, w', by
    subst hw
    exact ext_of (((Kp.refl w).ext u).ext u')⟩

theorem Ret.quiet2 {P : Program} {f : FuncId} {args : Array Value} {w u0 u : World} {v : Value} (h : Calls P f args (ext w (mrg w u0 u)) (Ret (ext w (mrg w u0 u)) v)) :
    Calls P f args (ext w (mrg w u0 u)) fun e w'' => e = .returned v ∧ ∃ u', w'' = ext w (mrg w u0 u') := by
  have e : ∀ u, ext w (mrg w u0 u) = ext (ext w u0) u := fun u => (ext_ext w u0 u).symm
  simp only [e] at h ⊢
  exact Ret.quiet h

/-- A region that draws its order and keeps all memory: walked once. -/
theorem wp_region_ext_lit {P : Program} {id : Nat} {Q : Exit → Act → World → Prop} {a : Act} {w : World} {l : List Oper} (hm : P.follows .mixedOrders = true) (hB : Region.lexB .any l.toArray = true)
    (h : wpQuiet P l.toArray (fun w' => ∃ u, w' = ext w u) (fun a' => ∀ w', (∃ u, w' = ext w u) → Q .normal a' w') l a) : (Code.region id l.toArray true).wp P Q a w :=
  wp_region_quiet (C := fun w' => ∃ u, w' = ext w u) hm hB ⟨w.drew, ext_of (Kp.refl w).drew⟩ (by simpa using h)

/-- a store of a float: the kit has this law for other kinds -/
theorem run_store_float {P : Program} {w : World} {a : Addr} {m : Mode} (k : FloatKind) (b : Nat) : (store a (.float k b) m).run P w = stored P w a (.float k b) m := run_store P w a _ m rfl

end PubFl
