/-
  Worlds that keep all of another one but some blocks.
-/
import Derived.Test.YtglopopdmkgooaaWm
import Derived.Laws.CopyOwn
namespace Go.Proofs.Ytglopopdmkgooaa
open PubFl Go.RowKit

attribute [local go_sem] cell_ext frozen_ext ext_setCell cell_store size_ext_eq lt_p0 lt_p1 lt_p2 lt_p3 lt_p4 lt_p5 lt_p6 lt_p7 lt_p8 lt_p9 lt_p10 lt_p11 lt_p12 lt_p13 lt_p14 lt_p15 lt_p16 lt_p17 lt_p18 lt_p19 lt_p20 lt_p21 lt_p22 lt_p23 lt_p24 lt_p25 lt_p26 lt_p27 lt_p28 lt_p29 lt_p30 lt_p31 lt_p32 lt_q1 lt_q2 lt_q3 lt_q4 lt_q5 lt_q6 lt_q7 lt_q8 lt_q9 lt_q10 lt_q11 lt_q12 lt_q13 lt_q14 lt_q15 lt_q16 lt_q17 lt_q18 lt_q19 lt_q20 lt_q21 lt_q22 lt_q23 lt_q24 lt_q25 lt_q26 lt_q27 lt_q28 lt_q29 lt_q30 lt_q31 lt_q32 run_fop run_store_float
attribute [local go_sem high] cmp_eql cmp_neq cmp_lss cmp_leq cmp_gtr cmp_geq

/-- a world that keeps all of another one but some blocks -/
structure Kx (S : List Nat) (w w' : World) : Prop where
  os : w'.os = w.os
  tape : w'.tape = w.tape
  output : w'.output = w.output
  size : w.heap.size ≤ w'.heap.size
  block : ∀ b, b < w.heap.size → b ∉ S → w'.heap[b]? = w.heap[b]?
theorem Kx.refl (S : List Nat) (w : World) : Kx S w w := ⟨rfl, rfl, rfl, Nat.le_refl _, fun _ _ _ => rfl⟩
theorem Kx.trans {S : List Nat} {a b c : World} (h : Kx S a b) (k : Kx S b c) : Kx S a c :=
  ⟨k.os.trans h.os, k.tape.trans h.tape, k.output.trans h.output, Nat.le_trans h.size k.size, fun i hi hn => (k.block i (Nat.lt_of_lt_of_le hi h.size) hn).trans (h.block i hi hn)⟩
theorem Kx.of_kp {S : List Nat} {w w' : World} (k : Kp w w') : Kx S w w' := ⟨k.os, k.tape, k.output, k.size, fun b hb _ => k.block b hb⟩
theorem Kx.mono {S S' : List Nat} {w w' : World} (h : Kx S w w') (hs : ∀ b ∈ S, b ∈ S') : Kx S' w w' := ⟨h.os, h.tape, h.output, h.size, fun b hb hn => h.block b hb fun c => hn (hs b c)⟩
theorem Kx.kp {S : List Nat} {w0 w w' : World} (h : Kx S w w') (k : Kp w0 w) (hs : ∀ b ∈ S, w0.heap.size ≤ b) : Kp w0 w' :=
  ⟨h.os.trans k.os, h.tape.trans k.tape, h.output.trans k.output, Nat.le_trans k.size h.size, fun b hb => (h.block b (Nat.lt_of_lt_of_le hb k.size) fun c => by have := hs b c; omega).trans (k.block b hb)⟩
theorem Kx.cell {S : List Nat} {w w' : World} (h : Kx S w w') {b o : Nat} (hb : b < w.heap.size) (hn : b ∉ S) : w'.cell? ⟨b, o, none⟩ = w.cell? ⟨b, o, none⟩ := World.cell?_of_block (h.block b hb hn)
theorem Kx.frozen {S : List Nat} {w w' : World} (h : Kx S w w') {b o : Nat} (hb : b < w.heap.size) (hn : b ∉ S) : w'.frozen? ⟨b, o, none⟩ = w.frozen? ⟨b, o, none⟩ := World.frozen?_of_block (h.block b hb hn)
theorem Kx.setCell {S : List Nat} {w w' : World} (h : Kx S w w') {g : Nat} (hg : g ∈ S) (o : Nat) (v : Value) : Kx S w (w'.setCell ⟨g, o, none⟩ v) :=
  ⟨h.os, h.tape, h.output, by simpa using h.size, fun b hb hn => (Below.heap_setCell _ _ _ _ (fun e => hn (by dsimp only at e; rw [e]; exact hg))).trans (h.block b hb hn)⟩
theorem Kx.setRow {S : List Nat} {w w' : World} (h : Kx S w w') {g : Nat} (hg : g ∈ S) (cs : Array Value) : Kx S w (w'.setRow g cs) :=
  ⟨h.os, h.tape, h.output, by simpa [World.setRow] using h.size, fun b hb hn => (setRow_other _ _ _ _ (fun e => hn (by rw [e]; exact hg))).trans (h.block b hb hn)⟩
theorem lt_heap' {w : World} {g : Nat} {x : Obj} (h : w.heap[g]? = some x) : g < w.heap.size := by
  rcases Nat.lt_or_ge g w.heap.size with c | c
  · exact c
  · rw [Array.getElem?_eq_none c] at h; cases h
end Go.Proofs.Ytglopopdmkgooaa
