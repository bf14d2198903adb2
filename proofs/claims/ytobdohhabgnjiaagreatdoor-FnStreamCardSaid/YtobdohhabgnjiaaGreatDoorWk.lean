/-
  Plain facts on worlds: 'ext w u' is a world that keeps all that w has. What a call that only makes memory leaves is such a world.
  A region that draws its order, whose operations read old memory and call such functions, is walked once.
-/
import Derived.Below
import Derived.Deep.Quiet
import Derived.WalkSmall
import Derived.Laws.NewBlocks
import Derived.KernelRfl
set_option linter.all false
namespace PubFl
open Go Go.RowKit

/-- w, and behind its blocks those of u -/
def ext (w u : World) : World := { w with heap := w.heap ++ u.heap.extract w.heap.size u.heap.size, drawn := u.drawn }
/-- how many blocks those are -/
def dz (n : Nat) (u : World) : Nat := u.heap.size - n

theorem heap_ext (w u : World) : (ext w u).heap = w.heap ++ u.heap.extract w.heap.size u.heap.size := rfl
theorem size_ext_eq (w u : World) : (ext w u).heap.size = w.heap.size + dz w.heap.size u := by
  rw [heap_ext, Array.size_append, Array.size_extract]
  unfold dz; omega
theorem ext_below (w u : World) : Below w.heap.size w (ext w u) :=
  ⟨rfl, rfl, rfl, by rw [heap_ext]; simp, fun k hk => by rw [heap_ext, Array.getElem?_append_left hk]⟩
theorem ext_of {w u : World} (h : Below w.heap.size w u) : u = ext w u := by
  have hh : u.heap = w.heap ++ u.heap.extract w.heap.size u.heap.size := by
    apply Array.ext_getElem?
    intro i
    by_cases hi : i < w.heap.size
    · rw [Array.getElem?_append_left hi]; exact h.block i hi
    · rw [Array.getElem?_append_right (by omega), Array.getElem?_extract]
      by_cases h2 : i < u.heap.size
      · rw [if_pos (by omega)]; congr 1; omega
      · rw [if_neg (by omega), Array.getElem?_eq_none (by omega)]
  have e1 := h.os
  have e2 := h.tape
  have e3 := h.output
  unfold ext
  rw [← hh]
  cases u; cases w
  simp only at e1 e2 e3
  subst e1 e2 e3
  rfl
/-- a store into an old block, carried inside -/
theorem ext_setCell {w u : World} {b o : Nat} {v : Value} (h : b < w.heap.size) : (ext w u).setCell ⟨b, o, none⟩ v = ext (w.setCell ⟨b, o, none⟩ v) u := by
  unfold ext World.setCell
  simp only [Array.size_modify]
  congr 1
  apply Array.ext_getElem?
  intro i
  simp only [Array.getElem?_modify]
  by_cases hi : i < w.heap.size
  · rw [Array.getElem?_append_left hi, Array.getElem?_append_left (by simpa using hi), Array.getElem?_modify]
  · rw [Array.getElem?_append_right (by omega), Array.getElem?_append_right (by simp; omega), if_neg (by omega)]
    simp
theorem cell_ext {w u : World} {b o : Nat} (h : b < w.heap.size) : (ext w u).cell? ⟨b, o, none⟩ = w.cell? ⟨b, o, none⟩ := (ext_below w u).cell (p := ⟨b, o, none⟩) h
theorem frozen_ext {w u : World} {b o : Nat} (h : b < w.heap.size) : (ext w u).frozen? ⟨b, o, none⟩ = w.frozen? ⟨b, o, none⟩ := (ext_below w u).frozen (p := ⟨b, o, none⟩) h
theorem lt_p0 (n : Nat) : n < n + 1 := by omega
theorem lt_p1 (n x1 : Nat) : n < n + 1 + x1 := by omega
theorem lt_p2 (n x1 x2 : Nat) : n < n + 1 + x1 + x2 := by omega
theorem lt_p3 (n x1 x2 x3 : Nat) : n < n + 1 + x1 + x2 + x3 := by omega
theorem lt_p4 (n x1 x2 x3 x4 : Nat) : n < n + 1 + x1 + x2 + x3 + x4 := by omega
theorem lt_p5 (n x1 x2 x3 x4 x5 : Nat) : n < n + 1 + x1 + x2 + x3 + x4 + x5 := by omega
theorem lt_p6 (n x1 x2 x3 x4 x5 x6 : Nat) : n < n + 1 + x1 + x2 + x3 + x4 + x5 + x6 := by omega
theorem lt_p7 (n x1 x2 x3 x4 x5 x6 x7 : Nat) : n < n + 1 + x1 + x2 + x3 + x4 + x5 + x6 + x7 := by omega
theorem lt_p8 (n x1 x2 x3 x4 x5 x6 x7 x8 : Nat) : n < n + 1 + x1 + x2 + x3 + x4 + x5 + x6 + x7 + x8 := by omega
theorem lt_p9 (n x1 x2 x3 x4 x5 x6 x7 x8 x9 : Nat) : n < n + 1 + x1 + x2 + x3 + x4 + x5 + x6 + x7 + x8 + x9 := by omega
theorem lt_p10 (n x1 x2 x3 x4 x5 x6 x7 x8 x9 x10 : Nat) : n < n + 1 + x1 + x2 + x3 + x4 + x5 + x6 + x7 + x8 + x9 + x10 := by omega
theorem lt_p11 (n x1 x2 x3 x4 x5 x6 x7 x8 x9 x10 x11 : Nat) : n < n + 1 + x1 + x2 + x3 + x4 + x5 + x6 + x7 + x8 + x9 + x10 + x11 := by omega
theorem lt_p12 (n x1 x2 x3 x4 x5 x6 x7 x8 x9 x10 x11 x12 : Nat) : n < n + 1 + x1 + x2 + x3 + x4 + x5 + x6 + x7 + x8 + x9 + x10 + x11 + x12 := by omega
theorem lt_p13 (n x1 x2 x3 x4 x5 x6 x7 x8 x9 x10 x11 x12 x13 : Nat) : n < n + 1 + x1 + x2 + x3 + x4 + x5 + x6 + x7 + x8 + x9 + x10 + x11 + x12 + x13 := by omega
theorem lt_p14 (n x1 x2 x3 x4 x5 x6 x7 x8 x9 x10 x11 x12 x13 x14 : Nat) : n < n + 1 + x1 + x2 + x3 + x4 + x5 + x6 + x7 + x8 + x9 + x10 + x11 + x12 + x13 + x14 := by omega
theorem lt_p15 (n x1 x2 x3 x4 x5 x6 x7 x8 x9 x10 x11 x12 x13 x14 x15 : Nat) : n < n + 1 + x1 + x2 + x3 + x4 + x5 + x6 + x7 + x8 + x9 + x10 + x11 + x12 + x13 + x14 + x15 := by omega
theorem lt_p16 (n x1 x2 x3 x4 x5 x6 x7 x8 x9 x10 x11 x12 x13 x14 x15 x16 : Nat) : n < n + 1 + x1 + x2 + x3 + x4 + x5 + x6 + x7 + x8 + x9 + x10 + x11 + x12 + x13 + x14 + x15 + x16 := by omega
theorem lt_p17 (n x1 x2 x3 x4 x5 x6 x7 x8 x9 x10 x11 x12 x13 x14 x15 x16 x17 : Nat) : n < n + 1 + x1 + x2 + x3 + x4 + x5 + x6 + x7 + x8 + x9 + x10 + x11 + x12 + x13 + x14 + x15 + x16 + x17 := by omega
theorem lt_p18 (n x1 x2 x3 x4 x5 x6 x7 x8 x9 x10 x11 x12 x13 x14 x15 x16 x17 x18 : Nat) : n < n + 1 + x1 + x2 + x3 + x4 + x5 + x6 + x7 + x8 + x9 + x10 + x11 + x12 + x13 + x14 + x15 + x16 + x17 + x18 := by omega
theorem lt_p19 (n x1 x2 x3 x4 x5 x6 x7 x8 x9 x10 x11 x12 x13 x14 x15 x16 x17 x18 x19 : Nat) : n < n + 1 + x1 + x2 + x3 + x4 + x5 + x6 + x7 + x8 + x9 + x10 + x11 + x12 + x13 + x14 + x15 + x16 + x17 + x18 + x19 := by omega
theorem lt_p20 (n x1 x2 x3 x4 x5 x6 x7 x8 x9 x10 x11 x12 x13 x14 x15 x16 x17 x18 x19 x20 : Nat) : n < n + 1 + x1 + x2 + x3 + x4 + x5 + x6 + x7 + x8 + x9 + x10 + x11 + x12 + x13 + x14 + x15 + x16 + x17 + x18 + x19 + x20 := by omega
theorem lt_p21 (n x1 x2 x3 x4 x5 x6 x7 x8 x9 x10 x11 x12 x13 x14 x15 x16 x17 x18 x19 x20 x21 : Nat) : n < n + 1 + x1 + x2 + x3 + x4 + x5 + x6 + x7 + x8 + x9 + x10 + x11 + x12 + x13 + x14 + x15 + x16 + x17 + x18 + x19 + x20 + x21 := by omega
theorem lt_p22 (n x1 x2 x3 x4 x5 x6 x7 x8 x9 x10 x11 x12 x13 x14 x15 x16 x17 x18 x19 x20 x21 x22 : Nat) : n < n + 1 + x1 + x2 + x3 + x4 + x5 + x6 + x7 + x8 + x9 + x10 + x11 + x12 + x13 + x14 + x15 + x16 + x17 + x18 + x19 + x20 + x21 + x22 := by omega
theorem lt_p23 (n x1 x2 x3 x4 x5 x6 x7 x8 x9 x10 x11 x12 x13 x14 x15 x16 x17 x18 x19 x20 x21 x22 x23 : Nat) : n < n + 1 + x1 + x2 + x3 + x4 + x5 + x6 + x7 + x8 + x9 + x10 + x11 + x12 + x13 + x14 + x15 + x16 + x17 + x18 + x19 + x20 + x21 + x22 + x23 := by omega
theorem lt_p24 (n x1 x2 x3 x4 x5 x6 x7 x8 x9 x10 x11 x12 x13 x14 x15 x16 x17 x18 x19 x20 x21 x22 x23 x24 : Nat) : n < n + 1 + x1 + x2 + x3 + x4 + x5 + x6 + x7 + x8 + x9 + x10 + x11 + x12 + x13 + x14 + x15 + x16 + x17 + x18 + x19 + x20 + x21 + x22 + x23 + x24 := by omega
theorem lt_p25 (n x1 x2 x3 x4 x5 x6 x7 x8 x9 x10 x11 x12 x13 x14 x15 x16 x17 x18 x19 x20 x21 x22 x23 x24 x25 : Nat) : n < n + 1 + x1 + x2 + x3 + x4 + x5 + x6 + x7 + x8 + x9 + x10 + x11 + x12 + x13 + x14 + x15 + x16 + x17 + x18 + x19 + x20 + x21 + x22 + x23 + x24 + x25 := by omega
theorem lt_p26 (n x1 x2 x3 x4 x5 x6 x7 x8 x9 x10 x11 x12 x13 x14 x15 x16 x17 x18 x19 x20 x21 x22 x23 x24 x25 x26 : Nat) : n < n + 1 + x1 + x2 + x3 + x4 + x5 + x6 + x7 + x8 + x9 + x10 + x11 + x12 + x13 + x14 + x15 + x16 + x17 + x18 + x19 + x20 + x21 + x22 + x23 + x24 + x25 + x26 := by omega
theorem lt_p27 (n x1 x2 x3 x4 x5 x6 x7 x8 x9 x10 x11 x12 x13 x14 x15 x16 x17 x18 x19 x20 x21 x22 x23 x24 x25 x26 x27 : Nat) : n < n + 1 + x1 + x2 + x3 + x4 + x5 + x6 + x7 + x8 + x9 + x10 + x11 + x12 + x13 + x14 + x15 + x16 + x17 + x18 + x19 + x20 + x21 + x22 + x23 + x24 + x25 + x26 + x27 := by omega
theorem lt_p28 (n x1 x2 x3 x4 x5 x6 x7 x8 x9 x10 x11 x12 x13 x14 x15 x16 x17 x18 x19 x20 x21 x22 x23 x24 x25 x26 x27 x28 : Nat) : n < n + 1 + x1 + x2 + x3 + x4 + x5 + x6 + x7 + x8 + x9 + x10 + x11 + x12 + x13 + x14 + x15 + x16 + x17 + x18 + x19 + x20 + x21 + x22 + x23 + x24 + x25 + x26 + x27 + x28 := by omega
theorem lt_p29 (n x1 x2 x3 x4 x5 x6 x7 x8 x9 x10 x11 x12 x13 x14 x15 x16 x17 x18 x19 x20 x21 x22 x23 x24 x25 x26 x27 x28 x29 : Nat) : n < n + 1 + x1 + x2 + x3 + x4 + x5 + x6 + x7 + x8 + x9 + x10 + x11 + x12 + x13 + x14 + x15 + x16 + x17 + x18 + x19 + x20 + x21 + x22 + x23 + x24 + x25 + x26 + x27 + x28 + x29 := by omega
theorem lt_p30 (n x1 x2 x3 x4 x5 x6 x7 x8 x9 x10 x11 x12 x13 x14 x15 x16 x17 x18 x19 x20 x21 x22 x23 x24 x25 x26 x27 x28 x29 x30 : Nat) : n < n + 1 + x1 + x2 + x3 + x4 + x5 + x6 + x7 + x8 + x9 + x10 + x11 + x12 + x13 + x14 + x15 + x16 + x17 + x18 + x19 + x20 + x21 + x22 + x23 + x24 + x25 + x26 + x27 + x28 + x29 + x30 := by omega
theorem lt_p31 (n x1 x2 x3 x4 x5 x6 x7 x8 x9 x10 x11 x12 x13 x14 x15 x16 x17 x18 x19 x20 x21 x22 x23 x24 x25 x26 x27 x28 x29 x30 x31 : Nat) : n < n + 1 + x1 + x2 + x3 + x4 + x5 + x6 + x7 + x8 + x9 + x10 + x11 + x12 + x13 + x14 + x15 + x16 + x17 + x18 + x19 + x20 + x21 + x22 + x23 + x24 + x25 + x26 + x27 + x28 + x29 + x30 + x31 := by omega
theorem lt_p32 (n x1 x2 x3 x4 x5 x6 x7 x8 x9 x10 x11 x12 x13 x14 x15 x16 x17 x18 x19 x20 x21 x22 x23 x24 x25 x26 x27 x28 x29 x30 x31 x32 : Nat) : n < n + 1 + x1 + x2 + x3 + x4 + x5 + x6 + x7 + x8 + x9 + x10 + x11 + x12 + x13 + x14 + x15 + x16 + x17 + x18 + x19 + x20 + x21 + x22 + x23 + x24 + x25 + x26 + x27 + x28 + x29 + x30 + x31 + x32 := by omega
theorem lt_q1 {w : World} {b x1 : Nat} (h : b < w.heap.size) : b < w.heap.size + x1 := by omega
theorem lt_q2 {w : World} {b x1 x2 : Nat} (h : b < w.heap.size) : b < w.heap.size + x1 + x2 := by omega
theorem lt_q3 {w : World} {b x1 x2 x3 : Nat} (h : b < w.heap.size) : b < w.heap.size + x1 + x2 + x3 := by omega
theorem lt_q4 {w : World} {b x1 x2 x3 x4 : Nat} (h : b < w.heap.size) : b < w.heap.size + x1 + x2 + x3 + x4 := by omega
theorem lt_q5 {w : World} {b x1 x2 x3 x4 x5 : Nat} (h : b < w.heap.size) : b < w.heap.size + x1 + x2 + x3 + x4 + x5 := by omega
theorem lt_q6 {w : World} {b x1 x2 x3 x4 x5 x6 : Nat} (h : b < w.heap.size) : b < w.heap.size + x1 + x2 + x3 + x4 + x5 + x6 := by omega
theorem lt_q7 {w : World} {b x1 x2 x3 x4 x5 x6 x7 : Nat} (h : b < w.heap.size) : b < w.heap.size + x1 + x2 + x3 + x4 + x5 + x6 + x7 := by omega
theorem lt_q8 {w : World} {b x1 x2 x3 x4 x5 x6 x7 x8 : Nat} (h : b < w.heap.size) : b < w.heap.size + x1 + x2 + x3 + x4 + x5 + x6 + x7 + x8 := by omega
theorem lt_q9 {w : World} {b x1 x2 x3 x4 x5 x6 x7 x8 x9 : Nat} (h : b < w.heap.size) : b < w.heap.size + x1 + x2 + x3 + x4 + x5 + x6 + x7 + x8 + x9 := by omega
theorem lt_q10 {w : World} {b x1 x2 x3 x4 x5 x6 x7 x8 x9 x10 : Nat} (h : b < w.heap.size) : b < w.heap.size + x1 + x2 + x3 + x4 + x5 + x6 + x7 + x8 + x9 + x10 := by omega
theorem lt_q11 {w : World} {b x1 x2 x3 x4 x5 x6 x7 x8 x9 x10 x11 : Nat} (h : b < w.heap.size) : b < w.heap.size + x1 + x2 + x3 + x4 + x5 + x6 + x7 + x8 + x9 + x10 + x11 := by omega
theorem lt_q12 {w : World} {b x1 x2 x3 x4 x5 x6 x7 x8 x9 x10 x11 x12 : Nat} (h : b < w.heap.size) : b < w.heap.size + x1 + x2 + x3 + x4 + x5 + x6 + x7 + x8 + x9 + x10 + x11 + x12 := by omega
theorem lt_q13 {w : World} {b x1 x2 x3 x4 x5 x6 x7 x8 x9 x10 x11 x12 x13 : Nat} (h : b < w.heap.size) : b < w.heap.size + x1 + x2 + x3 + x4 + x5 + x6 + x7 + x8 + x9 + x10 + x11 + x12 + x13 := by omega
theorem lt_q14 {w : World} {b x1 x2 x3 x4 x5 x6 x7 x8 x9 x10 x11 x12 x13 x14 : Nat} (h : b < w.heap.size) : b < w.heap.size + x1 + x2 + x3 + x4 + x5 + x6 + x7 + x8 + x9 + x10 + x11 + x12 + x13 + x14 := by omega
theorem lt_q15 {w : World} {b x1 x2 x3 x4 x5 x6 x7 x8 x9 x10 x11 x12 x13 x14 x15 : Nat} (h : b < w.heap.size) : b < w.heap.size + x1 + x2 + x3 + x4 + x5 + x6 + x7 + x8 + x9 + x10 + x11 + x12 + x13 + x14 + x15 := by omega
theorem lt_q16 {w : World} {b x1 x2 x3 x4 x5 x6 x7 x8 x9 x10 x11 x12 x13 x14 x15 x16 : Nat} (h : b < w.heap.size) : b < w.heap.size + x1 + x2 + x3 + x4 + x5 + x6 + x7 + x8 + x9 + x10 + x11 + x12 + x13 + x14 + x15 + x16 := by omega
theorem lt_q17 {w : World} {b x1 x2 x3 x4 x5 x6 x7 x8 x9 x10 x11 x12 x13 x14 x15 x16 x17 : Nat} (h : b < w.heap.size) : b < w.heap.size + x1 + x2 + x3 + x4 + x5 + x6 + x7 + x8 + x9 + x10 + x11 + x12 + x13 + x14 + x15 + x16 + x17 := by omega
theorem lt_q18 {w : World} {b x1 x2 x3 x4 x5 x6 x7 x8 x9 x10 x11 x12 x13 x14 x15 x16 x17 x18 : Nat} (h : b < w.heap.size) : b < w.heap.size + x1 + x2 + x3 + x4 + x5 + x6 + x7 + x8 + x9 + x10 + x11 + x12 + x13 + x14 + x15 + x16 + x17 + x18 := by omega
theorem lt_q19 {w : World} {b x1 x2 x3 x4 x5 x6 x7 x8 x9 x10 x11 x12 x13 x14 x15 x16 x17 x18 x19 : Nat} (h : b < w.heap.size) : b < w.heap.size + x1 + x2 + x3 + x4 + x5 + x6 + x7 + x8 + x9 + x10 + x11 + x12 + x13 + x14 + x15 + x16 + x17 + x18 + x19 := by omega
theorem lt_q20 {w : World} {b x1 x2 x3 x4 x5 x6 x7 x8 x9 x10 x11 x12 x13 x14 x15 x16 x17 x18 x19 x20 : Nat} (h : b < w.heap.size) : b < w.heap.size + x1 + x2 + x3 + x4 + x5 + x6 + x7 + x8 + x9 + x10 + x11 + x12 + x13 + x14 + x15 + x16 + x17 + x18 + x19 + x20 := by omega
theorem lt_q21 {w : World} {b x1 x2 x3 x4 x5 x6 x7 x8 x9 x10 x11 x12 x13 x14 x15 x16 x17 x18 x19 x20 x21 : Nat} (h : b < w.heap.size) : b < w.heap.size + x1 + x2 + x3 + x4 + x5 + x6 + x7 + x8 + x9 + x10 + x11 + x12 + x13 + x14 + x15 + x16 + x17 + x18 + x19 + x20 + x21 := by omega
theorem lt_q22 {w : World} {b x1 x2 x3 x4 x5 x6 x7 x8 x9 x10 x11 x12 x13 x14 x15 x16 x17 x18 x19 x20 x21 x22 : Nat} (h : b < w.heap.size) : b < w.heap.size + x1 + x2 + x3 + x4 + x5 + x6 + x7 + x8 + x9 + x10 + x11 + x12 + x13 + x14 + x15 + x16 + x17 + x18 + x19 + x20 + x21 + x22 := by omega
theorem lt_q23 {w : World} {b x1 x2 x3 x4 x5 x6 x7 x8 x9 x10 x11 x12 x13 x14 x15 x16 x17 x18 x19 x20 x21 x22 x23 : Nat} (h : b < w.heap.size) : b < w.heap.size + x1 + x2 + x3 + x4 + x5 + x6 + x7 + x8 + x9 + x10 + x11 + x12 + x13 + x14 + x15 + x16 + x17 + x18 + x19 + x20 + x21 + x22 + x23 := by omega
theorem lt_q24 {w : World} {b x1 x2 x3 x4 x5 x6 x7 x8 x9 x10 x11 x12 x13 x14 x15 x16 x17 x18 x19 x20 x21 x22 x23 x24 : Nat} (h : b < w.heap.size) : b < w.heap.size + x1 + x2 + x3 + x4 + x5 + x6 + x7 + x8 + x9 + x10 + x11 + x12 + x13 + x14 + x15 + x16 + x17 + x18 + x19 + x20 + x21 + x22 + x23 + x24 := by omega
theorem lt_q25 {w : World} {b x1 x2 x3 x4 x5 x6 x7 x8 x9 x10 x11 x12 x13 x14 x15 x16 x17 x18 x19 x20 x21 x22 x23 x24 x25 : Nat} (h : b < w.heap.size) : b < w.heap.size + x1 + x2 + x3 + x4 + x5 + x6 + x7 + x8 + x9 + x10 + x11 + x12 + x13 + x14 + x15 + x16 + x17 + x18 + x19 + x20 + x21 + x22 + x23 + x24 + x25 := by omega
theorem lt_q26 {w : World} {b x1 x2 x3 x4 x5 x6 x7 x8 x9 x10 x11 x12 x13 x14 x15 x16 x17 x18 x19 x20 x21 x22 x23 x24 x25 x26 : Nat} (h : b < w.heap.size) : b < w.heap.size + x1 + x2 + x3 + x4 + x5 + x6 + x7 + x8 + x9 + x10 + x11 + x12 + x13 + x14 + x15 + x16 + x17 + x18 + x19 + x20 + x21 + x22 + x23 + x24 + x25 + x26 := by omega
theorem lt_q27 {w : World} {b x1 x2 x3 x4 x5 x6 x7 x8 x9 x10 x11 x12 x13 x14 x15 x16 x17 x18 x19 x20 x21 x22 x23 x24 x25 x26 x27 : Nat} (h : b < w.heap.size) : b < w.heap.size + x1 + x2 + x3 + x4 + x5 + x6 + x7 + x8 + x9 + x10 + x11 + x12 + x13 + x14 + x15 + x16 + x17 + x18 + x19 + x20 + x21 + x22 + x23 + x24 + x25 + x26 + x27 := by omega
theorem lt_q28 {w : World} {b x1 x2 x3 x4 x5 x6 x7 x8 x9 x10 x11 x12 x13 x14 x15 x16 x17 x18 x19 x20 x21 x22 x23 x24 x25 x26 x27 x28 : Nat} (h : b < w.heap.size) : b < w.heap.size + x1 + x2 + x3 + x4 + x5 + x6 + x7 + x8 + x9 + x10 + x11 + x12 + x13 + x14 + x15 + x16 + x17 + x18 + x19 + x20 + x21 + x22 + x23 + x24 + x25 + x26 + x27 + x28 := by omega
theorem lt_q29 {w : World} {b x1 x2 x3 x4 x5 x6 x7 x8 x9 x10 x11 x12 x13 x14 x15 x16 x17 x18 x19 x20 x21 x22 x23 x24 x25 x26 x27 x28 x29 : Nat} (h : b < w.heap.size) : b < w.heap.size + x1 + x2 + x3 + x4 + x5 + x6 + x7 + x8 + x9 + x10 + x11 + x12 + x13 + x14 + x15 + x16 + x17 + x18 + x19 + x20 + x21 + x22 + x23 + x24 + x25 + x26 + x27 + x28 + x29 := by omega
theorem lt_q30 {w : World} {b x1 x2 x3 x4 x5 x6 x7 x8 x9 x10 x11 x12 x13 x14 x15 x16 x17 x18 x19 x20 x21 x22 x23 x24 x25 x26 x27 x28 x29 x30 : Nat} (h : b < w.heap.size) : b < w.heap.size + x1 + x2 + x3 + x4 + x5 + x6 + x7 + x8 + x9 + x10 + x11 + x12 + x13 + x14 + x15 + x16 + x17 + x18 + x19 + x20 + x21 + x22 + x23 + x24 + x25 + x26 + x27 + x28 + x29 + x30 := by omega
theorem lt_q31 {w : World} {b x1 x2 x3 x4 x5 x6 x7 x8 x9 x10 x11 x12 x13 x14 x15 x16 x17 x18 x19 x20 x21 x22 x23 x24 x25 x26 x27 x28 x29 x30 x31 : Nat} (h : b < w.heap.size) : b < w.heap.size + x1 + x2 + x3 + x4 + x5 + x6 + x7 + x8 + x9 + x10 + x11 + x12 + x13 + x14 + x15 + x16 + x17 + x18 + x19 + x20 + x21 + x22 + x23 + x24 + x25 + x26 + x27 + x28 + x29 + x30 + x31 := by omega
theorem lt_q32 {w : World} {b x1 x2 x3 x4 x5 x6 x7 x8 x9 x10 x11 x12 x13 x14 x15 x16 x17 x18 x19 x20 x21 x22 x23 x24 x25 x26 x27 x28 x29 x30 x31 x32 : Nat} (h : b < w.heap.size) : b < w.heap.size + x1 + x2 + x3 + x4 + x5 + x6 + x7 + x8 + x9 + x10 + x11 + x12 + x13 + x14 + x15 + x16 + x17 + x18 + x19 + x20 + x21 + x22 + x23 + x24 + x25 + x26 + x27 + x28 + x29 + x30 + x31 + x32 := by omega

theorem cell_store (w : World) (a : Addr) (v : Value) : (w.setCell a v).cell? a = (w.cell? a).map fun _ => v := by
  cases h : w.cell? a with
  | some u => exact World.cell?_setCell_same w a v h
  | none =>
    unfold World.cell? at h
    unfold World.cell? World.setCell
    simp only [Array.getElem?_modify, if_pos]
    cases hb : w.heap[a.block]? with
    | none => rfl
    | some o =>
      rw [hb] at h
      cases o with
      | cells c e f =>
        simp only [Option.map_some]
        simp only at h
        cases hs : a.spot.isSome
        · simp only [hs, Bool.false_eq_true, if_false] at h ⊢
          have : c.size ≤ a.off := by simpa using h
          simp only [Array.getElem?_setIfInBounds, Option.map_none]
          rw [if_pos trivial, if_neg (by omega)]
        · simp
      | _ => rfl

attribute [irreducible] ext dz

/-- what is kept from a world on -/
def Kp (a w : World) : Prop := Below a.heap.size a w
theorem Kp.refl (a : World) : Kp a a := Below.refl _ _
theorem Kp.size {a w : World} (h : Kp a w) : a.heap.size ≤ w.heap.size := Below.size h
theorem Kp.alloc {a w : World} (h : Kp a w) (o : Obj) : Kp a (w.alloc o) := Below.alloc h h.size o
theorem Kp.drew {a w : World} (h : Kp a w) : Kp a w.drew := Below.drew h
theorem Kp.drewN {a w : World} (h : Kp a w) (n : Nat) : Kp a (w.drewN n) := below_drewN h n
theorem Kp.trans {a w u : World} (h : Kp a w) (k : Kp w u) : Kp a u := Below.trans h (Below.mono k h.size)
theorem Kp.ext {a w : World} (h : Kp a w) (u : World) : Kp a (ext w u) := h.trans (ext_below w u)
theorem Kp.setCell {a w : World} (h : Kp a w) {p : Addr} (hp : a.heap.size ≤ p.block) (v : Value) : Kp a (w.setCell p v) := Below.setCell h hp v

/-- A call hands back v, and keeps all memory. -/
def Ret (w : World) (v : Value) (e : Ending) (w' : World) : Prop := e = .returned v ∧ ∃ u, w' = ext w u
theorem Ret.mk {w w' : World} {v : Value} {e : Ending} (he : e = .returned v) (h : Kp w w') : Ret w v e w' := ⟨he, w', ext_of h⟩

/-- .. as an operation of a region that draws its order -/
theorem Ret.quiet {P : Program} {f : FuncId} {args : Array Value} {w u : World} {v : Value} (h : Calls P f args (ext w u) (Ret (ext w u) v)) :
    Calls P f args (ext w u) fun e w'' => e = .returned v ∧ ∃ u', w'' = ext w u' :=
  h.mono fun _ w' ⟨he, u', hw⟩ => ⟨he, w', by
    subst hw
    exact ext_of (((Kp.refl w).ext u).ext u')⟩

/-- a call from a world that keeps w leaves a world that keeps w -/
theorem Ret.at_ext {P : Program} {f : FuncId} {args : Array Value} {w u0 : World} {v : Value} (h : Calls P f args (ext w u0) (Ret (ext w u0) v)) : Calls P f args (ext w u0) (Ret w v) :=
  h.mono fun _ w' ⟨he, u', hw⟩ => ⟨he, w', by
    subst hw
    exact ext_of (((Kp.refl w).ext u0).ext u')⟩

/-- A region that draws its order and keeps all memory: walked once. -/
theorem wp_region_ext_lit {P : Program} {id : Nat} {Q : Exit → Act → World → Prop} {a : Act} {w : World} {l : List Oper} (hm : P.follows .mixedOrders = true) (hB : Region.lexB .any l.toArray = true)
    (h : wpQuiet P l.toArray (fun w' => ∃ u, w' = ext w u) (fun a' => ∀ w', (∃ u, w' = ext w u) → Q .normal a' w') l a) : (Code.region id l.toArray true).wp P Q a w :=
  wp_region_quiet (C := fun w' => ∃ u, w' = ext w u) hm hB ⟨w.drew, ext_of (Kp.refl w).drew⟩ (by simpa using h)

/-- a store of a float: the kit has this law for other kinds -/
theorem run_store_float {P : Program} {w : World} {a : Addr} {m : Mode} (k : FloatKind) (b : Nat) : (store a (.float k b) m).run P w = stored P w a (.float k b) m := run_store P w a _ m rfl

theorem wp_region_ext_lit2 {P : Program} {id : Nat} {Q : Exit → Act → World → Prop} {a : Act} {w u0 : World} {l : List Oper} (hm : P.follows .mixedOrders = true) (hB : Region.lexB .any l.toArray = true)
    (h : wpQuiet P l.toArray (fun w' => ∃ u, w' = ext w u) (fun a' => ∀ w', (∃ u, w' = ext w u) → Q .normal a' w') l a) : (Code.region id l.toArray true).wp P Q a (ext w u0) :=
  wp_region_quiet (C := fun w' => ∃ u, w' = ext w u) hm hB ⟨_, ext_of ((Kp.refl w).ext u0).drew⟩ (by simpa using h)

end PubFl
