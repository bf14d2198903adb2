/-
  Worlds that keep all of another one but some blocks.
  Worlds that keep all but some blocks; bytes put into a row: ByteOrder.PutUint32, PutUint64.
  bytes.growSlice, by the library's contract.
  bytes.Buffer.tryGrowByReslice, grow: a buffer that may get another row.
  bytes.Buffer.Write, the buffer growing where it must.
  The encoder's state; writeTypePrefix.
  writeTypePrefix with a number of a reference system; writePoint.
  writeLineString.
  writePolygon.
-/
import Derived.Test.YtobdohhabgnjiaaGreatDoorWm
import Derived.Laws.CopyOwn
import Derived.Test.YtobdohhabgnjiaaGreatDoorMForm
import Derived.WalkSpells
import Derived.Lib.LazyBuf
import Derived.Shelf.Bytes.GrowSlice
import Derived.Deep.RegionWith
import Derived.Shelf.RegionOpenPlain
import Derived.Deep.Draws
import Derived.Test.YtobdohhabgnjiaaGreatDoorWt
import Derived.Deep.RegionHeld3
import Derived.Deep.DrawnRows
set_option linter.all false
namespace Go.Proofs.YtobdohhabgnjiaaGreatDoor
open PubFl Go.RowKit

attribute [local go_sem] cell_ext frozen_ext ext_setCell cell_store size_ext_eq lt_p0 lt_p1 lt_p2 lt_p3 lt_p4 lt_p5 lt_p6 lt_p7 lt_p8 lt_p9 lt_p10 lt_p11 lt_p12 lt_p13 lt_p14 lt_p15 lt_p16 lt_p17 lt_p18 lt_p19 lt_p20 lt_p21 lt_p22 lt_p23 lt_p24 lt_p25 lt_p26 lt_p27 lt_p28 lt_p29 lt_p30 lt_p31 lt_p32 lt_q1 lt_q2 lt_q3 lt_q4 lt_q5 lt_q6 lt_q7 lt_q8 lt_q9 lt_q10 lt_q11 lt_q12 lt_q13 lt_q14 lt_q15 lt_q16 lt_q17 lt_q18 lt_q19 lt_q20 lt_q21 lt_q22 lt_q23 lt_q24 lt_q25 lt_q26 lt_q27 lt_q28 lt_q29 lt_q30 lt_q31 lt_q32 run_fop run_store_float
attribute [local go_sem high] cmp_eql cmp_neq cmp_lss cmp_leq cmp_gtr cmp_geq

/-- a world that keeps all of another one but some blocks -/
structure Kx (S : List Nat) (w w' : World) : Prop where
  os : w'.os = w.os
  tape : w'.tape = w.tape
  output : w'.output = w.output
  size : w.heap.size ≤ w'.heap.size
  block : ∀ b, b < w.heap.size → b ∉ S → w'.heap[b]? = w.heap[b]?
theorem Kx.refl (S : List Nat) (w : World) : Kx S w w := ⟨rfl, rfl, rfl, Nat.le_refl _, fun _ _ _ => rfl⟩
theorem Kx.trans {S : List Nat} {a b c : World} (h : Kx S a b) (k : Kx S b c) : Kx S a c :=
  ⟨k.os.trans h.os, k.tape.trans h.tape, k.output.trans h.output, Nat.le_trans h.size k.size, fun i hi hn => (k.block i (Nat.lt_of_lt_of_le hi h.size) hn).trans (h.block i hi hn)⟩
theorem Kx.of_kp {S : List Nat} {w w' : World} (k : Kp w w') : Kx S w w' := ⟨k.os, k.tape, k.output, k.size, fun b hb _ => k.block b hb⟩
theorem Kx.mono {S S' : List Nat} {w w' : World} (h : Kx S w w') (hs : ∀ b ∈ S, b ∈ S') : Kx S' w w' := ⟨h.os, h.tape, h.output, h.size, fun b hb hn => h.block b hb fun c => hn (hs b c)⟩
theorem Kx.kp {S : List Nat} {w0 w w' : World} (h : Kx S w w') (k : Kp w0 w) (hs : ∀ b ∈ S, w0.heap.size ≤ b) : Kp w0 w' :=
  ⟨h.os.trans k.os, h.tape.trans k.tape, h.output.trans k.output, Nat.le_trans k.size h.size, fun b hb => (h.block b (Nat.lt_of_lt_of_le hb k.size) fun c => by have := hs b c; omega).trans (k.block b hb)⟩
theorem Kx.cell {S : List Nat} {w w' : World} (h : Kx S w w') {b o : Nat} (hb : b < w.heap.size) (hn : b ∉ S) : w'.cell? ⟨b, o, none⟩ = w.cell? ⟨b, o, none⟩ := World.cell?_of_block (h.block b hb hn)
theorem Kx.frozen {S : List Nat} {w w' : World} (h : Kx S w w') {b o : Nat} (hb : b < w.heap.size) (hn : b ∉ S) : w'.frozen? ⟨b, o, none⟩ = w.frozen? ⟨b, o, none⟩ := World.frozen?_of_block (h.block b hb hn)
theorem Kx.setCell {S : List Nat} {w w' : World} (h : Kx S w w') {g : Nat} (hg : g ∈ S) (o : Nat) (v : Value) : Kx S w (w'.setCell ⟨g, o, none⟩ v) :=
  ⟨h.os, h.tape, h.output, by simpa using h.size, fun b hb hn => (Below.heap_setCell _ _ _ _ (fun e => hn (by dsimp only at e; rw [e]; exact hg))).trans (h.block b hb hn)⟩
theorem Kx.setRow {S : List Nat} {w w' : World} (h : Kx S w w') {g : Nat} (hg : g ∈ S) (cs : Array Value) : Kx S w (w'.setRow g cs) :=
  ⟨h.os, h.tape, h.output, by simpa [World.setRow] using h.size, fun b hb hn => (setRow_other _ _ _ _ (fun e => hn (by rw [e]; exact hg))).trans (h.block b hb hn)⟩
theorem lt_heap' {w : World} {g : Nat} {x : Obj} (h : w.heap[g]? = some x) : g < w.heap.size := by
  rcases Nat.lt_or_ge g w.heap.size with c | c
  · exact c
  · rw [Array.getElem?_eq_none c] at h; cases h
end Go.Proofs.YtobdohhabgnjiaaGreatDoor

set_option linter.all false
namespace Go.Proofs.YtobdohhabgnjiaaGreatDoor
open PubFl Go.RowKit

attribute [local go_sem] cell_ext frozen_ext ext_setCell cell_store size_ext_eq lt_p0 lt_p1 lt_p2 lt_p3 lt_p4 lt_p5 lt_p6 lt_p7 lt_p8 lt_p9 lt_p10 lt_p11 lt_p12 lt_p13 lt_p14 lt_p15 lt_p16 lt_p17 lt_p18 lt_p19 lt_p20 lt_p21 lt_p22 lt_p23 lt_p24 lt_p25 lt_p26 lt_p27 lt_p28 lt_p29 lt_p30 lt_p31 lt_p32 lt_q1 lt_q2 lt_q3 lt_q4 lt_q5 lt_q6 lt_q7 lt_q8 lt_q9 lt_q10 lt_q11 lt_q12 lt_q13 lt_q14 lt_q15 lt_q16 lt_q17 lt_q18 lt_q19 lt_q20 lt_q21 lt_q22 lt_q23 lt_q24 lt_q25 lt_q26 lt_q27 lt_q28 lt_q29 lt_q30 lt_q31 lt_q32 run_fop run_store_float
attribute [local go_sem high] cmp_eql cmp_neq cmp_lss cmp_leq cmp_gtr cmp_geq

theorem Kx.agree {S : List Nat} {w w' : World} (h : Kx S w w') {lo hi : Nat} (hh : hi ≤ w.heap.size) (hs : ∀ b ∈ S, b < lo ∨ hi ≤ b) : Agree lo hi w w' := fun b h1 h2 => h.block b (by omega) fun c => by have := hs b c; omega
theorem BytesAt.kx {S : List Nat} {w w' : World} {b off : Nat} {bs : List Nat} (h : BytesAt w b off bs) (hb : b < w.heap.size) (k : Kx S w w') (hn : b ∉ S) : BytesAt w' b off bs := fun i hi => (k.cell hb hn).trans (h i hi)

/-- bytes put one behind the other -/
def putB : World → Nat → Nat → List Nat → World
  | w, _, _, [] => w
  | w, g, off, b :: bs => putB (w.setCell ⟨g, off, none⟩ (.int .u8 (b : Int))) g (off + 1) bs
theorem putB_append (g : Nat) : ∀ (as' bs : List Nat) (w : World) (off : Nat), putB w g off (as' ++ bs) = putB (putB w g off as') g (off + as'.length) bs
  | [], bs, w, off => rfl
  | a :: as', bs, w, off => by
    show putB _ g (off + 1) (as' ++ bs) = putB (putB _ g (off + 1) as') g (off + (as'.length + 1)) bs
    rw [putB_append g as' bs, show off + 1 + as'.length = off + (as'.length + 1) by omega]
theorem putB_kx {S : List Nat} {w0 : World} {g : Nat} (hg : g ∈ S) : ∀ (bs : List Nat) (w : World) (off : Nat), Kx S w0 w → Kx S w0 (putB w g off bs)
  | [], _, _, h => h
  | b :: bs, w, off, h => putB_kx hg bs _ (off + 1) (h.setCell hg off _)
theorem putB_frozen (g k : Nat) (j : Nat) : ∀ (bs : List Nat) (w : World) (off : Nat), (putB w g off bs).frozen? ⟨k, j, none⟩ = w.frozen? ⟨k, j, none⟩
  | [], _, _ => rfl
  | b :: bs, w, off => by
    show (putB _ g (off + 1) bs).frozen? _ = _
    rw [putB_frozen g k j bs]; simp
theorem putB_other (g : Nat) (p : Addr) : ∀ (bs : List Nat) (w : World) (off : Nat), (p.block = g → p.off < off ∨ off + bs.length ≤ p.off) → (putB w g off bs).cell? p = w.cell? p
  | [], _, _, _ => rfl
  | b :: bs, w, off, h => by
    show (putB _ g (off + 1) bs).cell? _ = _
    rw [putB_other g p bs _ _ (fun e => by have := h e; simp at this; omega)]
    refine World.cell?_setCell_other _ _ _ _ (fun e => ?_)
    subst e
    have := h rfl
    simp only [List.length_cons] at this
    omega
/-- a row of so many values of any kind -/
def Cells (w : World) (g n : Nat) : Prop := ∀ i, i < n → ∃ x, w.cell? ⟨g, i, none⟩ = some x
theorem Cells.put {g n : Nat} : ∀ (bs : List Nat) {w : World} (off : Nat), Cells w g n → Cells (putB w g off bs) g n
  | [], _, _, h => h
  | b :: bs, w, off, h => by
    refine Cells.put bs (off + 1) fun i hi => ?_
    obtain ⟨x, hx⟩ := h i hi
    by_cases c : i = off
    · subst c
      exact ⟨_, World.cell?_setCell_same _ _ _ hx⟩
    · exact ⟨x, (World.cell?_setCell_other _ _ _ _ (fun e => c (by injection e with _ e _; omega))).trans hx⟩
theorem putB_at {g n : Nat} : ∀ (bs : List Nat) {w : World} (off : Nat), Cells w g n → off + bs.length ≤ n → BytesAt (putB w g off bs) g off bs
  | [], _, _, _, _ => fun i hi => by simp at hi
  | b :: bs, w, off, h, hl => by
    have hc : Cells (w.setCell ⟨g, off, none⟩ (.int .u8 (b : Int))) g n := Cells.put [b] off h
    have ih := putB_at bs (off + 1) hc (by simp at hl; omega)
    intro i hi
    cases i with
    | zero =>
      show (putB (w.setCell ⟨g, off, none⟩ (.int .u8 (b : Int))) g (off + 1) bs).cell? ⟨g, off + 0, none⟩ = _
      rw [putB_other g _ bs _ _ (fun _ => .inl (by simp))]
      obtain ⟨x, hx⟩ := h off (by simp at hl; omega)
      exact World.cell?_setCell_same _ _ _ hx
    | succ i =>
      have := ih i (by simpa using hi)
      rw [show off + 1 + i = off + (i + 1) by omega] at this
      exact this
theorem BytesAt.append {w : World} {g off : Nat} {as' bs : List Nat} (h : BytesAt w g off as') (k : BytesAt w g (off + as'.length) bs) : BytesAt w g off (as' ++ bs) := fun i hi => by
  by_cases c : i < as'.length
  · rw [List.getElem_append_left c]; exact h i c
  · rw [List.getElem_append_right (by omega)]
    have := k (i - as'.length) (by rw [List.length_append] at hi; omega)
    rw [show off + as'.length + (i - as'.length) = off + i by omega] at this
    exact this
theorem BytesAt.take {w : World} {g off : Nat} {bs : List Nat} (h : BytesAt w g off bs) (n : Nat) : BytesAt w g off (bs.take n) := fun i hi => by
  rw [List.getElem_take]
  exact h i (by rw [List.length_take] at hi; omega)

def ordN (big : Bool) : Int := if big then 1 else 0
/-- what a call leaves that hands back nothing -/
def Ret0 (W : World) (e : Ending) (w' : World) : Prop := e = .returned (.tuple #[]) ∧ w' = W

set_option maxRecDepth 20000 in
set_option maxHeartbeats 1000000 in
theorem put32_c (v : Nat) (hv : v < 4294967296) (big : Bool) (g off n c : Nat) (hn : 4 ≤ n) (w : World) (hc : ∀ i, i < 4 → ∃ x, w.cell? ⟨g, off + i, none⟩ = some x) (hz : ∀ j, w.frozen? ⟨g, j, none⟩ = false) :
    Calls Tryz.prog 74 #[.int .u8 (ordN big), .slice (some ⟨g, off, none⟩) n c, .int .u32 (v : Int)] w (Ret0 (putB w g off (num32 v big))) := by
  obtain ⟨x0, h0⟩ := hc 0 (by omega)
  obtain ⟨x1, h1⟩ := hc 1 (by omega)
  obtain ⟨x2, h2⟩ := hc 2 (by omega)
  obtain ⟨x3, h3⟩ := hc 3 (by omega)
  rw [Nat.add_zero] at h0
  have z0 := hz off
  have z1 := hz (off + 1)
  have z2 := hz (off + 2)
  have z3 := hz (off + 3)
  have i0 : (0 : Int) < (n : Int) := by omega
  have i1 : (1 : Int) < (n : Int) := by omega
  have i2 : (2 : Int) < (n : Int) := by omega
  have i3 : (3 : Int) < (n : Int) := by omega
  clear hc hz
  cases big
  · show Calls Tryz.prog 74 #[.int .u8 0, .slice (some ⟨g, off, none⟩) n c, .int .u32 (v : Int)] w _
    go_enter Tryz.func74, Tryz.ntmps74
    go_wp2_with fail
    go_end0
    exact ⟨rfl, by simp [putB, num32]⟩
  · show Calls Tryz.prog 74 #[.int .u8 1, .slice (some ⟨g, off, none⟩) n c, .int .u32 (v : Int)] w _
    go_enter Tryz.func74, Tryz.ntmps74
    go_wp2_with fail
    go_end0
    exact ⟨rfl, by simp [putB, num32]⟩

theorem num64_f (v : Nat) : num64 v false = num32 (v % 4294967296) false ++ num32 (v / 4294967296) false := rfl
theorem num64_t (v : Nat) : num64 v true = num32 (v / 4294967296) true ++ num32 (v % 4294967296) true := rfl
set_option maxRecDepth 20000 in
set_option maxHeartbeats 1000000 in
theorem put64_c (v : Nat) (hv : v < 2 ^ 64) (big : Bool) (g off n c : Nat) (hn : 8 ≤ n) (hnc : n ≤ c) (w : World) (hc : ∀ i, i < 8 → ∃ x, w.cell? ⟨g, off + i, none⟩ = some x) (hz : ∀ j, w.frozen? ⟨g, j, none⟩ = false) :
    Calls Tryz.prog 75 #[.int .u8 (ordN big), .slice (some ⟨g, off, none⟩) n c, .int .u64 (v : Int)] w (Ret0 (putB w g off (num64 v big))) := by
  have hA : ∀ (x : Nat), x < 4294967296 → Calls Tryz.prog 74 #[.int .u8 (ordN big), .slice (some ⟨g, off, none⟩) n c, .int .u32 (x : Int)] w (Ret0 (putB w g off (num32 x big))) := fun x hx =>
    put32_c x hx big g off n c (by omega) w (fun i hi => hc i (by omega)) hz
  have hB : ∀ (x y : Nat), x < 4294967296 → Calls Tryz.prog 74 #[.int .u8 (ordN big), .slice (some ⟨g, off + 4, none⟩) (n - 4) (c - 4), .int .u32 (x : Int)] (putB w g off (num32 y big)) (Ret0 (putB (putB w g off (num32 y big)) g (off + 4) (num32 x big))) := fun x y hx =>
    put32_c x hx big g (off + 4) (n - 4) (c - 4) (by omega) _ (fun i hi => by
      obtain ⟨u, hu⟩ := hc (4 + i) (by omega)
      refine ⟨u, ?_⟩
      rw [putB_other g _ _ _ _ (fun _ => .inr (by rw [num32_length]; simp)), show off + 4 + i = off + (4 + i) by omega]
      exact hu) (fun j => by rw [putB_frozen]; exact hz j)
  have e1 : ((v : Int) % 4294967296) = ((v % 4294967296 : Nat) : Int) := by omega
  have e2 : ((v : Int) / 4294967296) = ((v / 4294967296 : Nat) : Int) := by omega
  obtain ⟨x7, h7⟩ := hc 7 (by omega)
  have i7 : (7 : Int) < (n : Int) := by omega
  have i4 : (4 : Int) ≤ (n : Int) := by omega
  have i5 : (n : Int) ≤ (c : Int) := by omega
  have i6 : (4 = c) = False := eq_false (by omega)
  have i8 : (c = 4) = False := eq_false (by omega)
  have HA1 := Lib.hid (hA (v % 4294967296) (by omega))
  have HA2 := Lib.hid (hA (v / 4294967296) (by omega))
  have HB1 := Lib.hid (hB (v / 4294967296) (v % 4294967296) (by omega))
  have HB2 := Lib.hid (hB (v % 4294967296) (v / 4294967296) (by omega))
  rw [← e1] at HA1 HB2
  rw [← e2] at HA2 HB1
  clear hA hB hc hz e1 e2
  cases big
  · rw [num64_f, putB_append, num32_length]
    generalize putB w g off (num32 (v % 4294967296) false) = W1 at *
    generalize putB W1 g (off + 4) (num32 (v / 4294967296) false) = W2 at *
    change Hid (Calls Tryz.prog _ #[.int .u8 0, _, _] _ _) at HA1
    change Hid (Calls Tryz.prog _ #[.int .u8 0, _, _] _ _) at HB1
    show Calls Tryz.prog 75 #[.int .u8 0, .slice (some ⟨g, off, none⟩) n c, .int .u64 (v : Int)] w _
    clear HA2 HB2
    go_enter Tryz.func75, Tryz.ntmps75
    go_wp2_with (first | (go_at_call 74; (with_reducible refine (HA1.out).mono ?_); rintro e w1 ⟨rfl, rfl⟩) | (go_at_call 74; (with_reducible refine (HB1.out).mono ?_); rintro e w1 ⟨rfl, rfl⟩))
    go_end0
    exact ⟨rfl, rfl⟩
  · rw [num64_t, putB_append, num32_length]
    generalize putB w g off (num32 (v / 4294967296) true) = W1 at *
    generalize putB W1 g (off + 4) (num32 (v % 4294967296) true) = W2 at *
    change Hid (Calls Tryz.prog _ #[.int .u8 1, _, _] _ _) at HA2
    change Hid (Calls Tryz.prog _ #[.int .u8 1, _, _] _ _) at HB2
    show Calls Tryz.prog 75 #[.int .u8 1, .slice (some ⟨g, off, none⟩) n c, .int .u64 (v : Int)] w _
    clear HA1 HB1
    go_enter Tryz.func75, Tryz.ntmps75
    go_wp2_with (first | (go_at_call 74; (with_reducible refine (HA2.out).mono ?_); rintro e w1 ⟨rfl, rfl⟩) | (go_at_call 74; (with_reducible refine (HB2.out).mono ?_); rintro e w1 ⟨rfl, rfl⟩))
    go_end0
    exact ⟨rfl, rfl⟩
end Go.Proofs.YtobdohhabgnjiaaGreatDoor

set_option linter.all false
namespace Go.Proofs.YtobdohhabgnjiaaGreatDoor
open PubFl Go.RowKit Go.Shelf

def growRen : Shelf.Ren where
  f := fun x => match x with
    | 290 => 114
    | 324 => 115
    | n => n
  t := fun x => match x with
    | 37 => 25
    | 3 => 3
    | 0 => 0
    | 4 => 4
    | 20 => 20
    | 75 => 55
    | 5 => 5
    | 80 => 196
    | 9 => 9
    | n => n
  g := fun x => match x with
    | 14 => 13
    | n => n
set_option maxRecDepth 100000 in
theorem growLay : LaysM.n290 Tryz.prog growRen :=
  { mixed := Eq.refl true, f290 := Eq.trans Tryz.func114 (congrArg some (Eq.refl (Body.n290 growRen))),
    f324 := Eq.trans Tryz.func115 (congrArg some (Eq.refl (Body.n324 growRen))), t0 := Tryz.underlying0,
    a0 := Tryz.isAgg0, z0 := Tryz.sizeOf0, v0 := Tryz.zeroValue0, t3 := Tryz.underlying3, a3 := Tryz.isAgg3,
    z3 := Tryz.sizeOf3, v3 := Tryz.zeroValue3, t4 := Tryz.underlying4, a4 := Tryz.isAgg4, z4 := Tryz.sizeOf4,
    v4 := Tryz.zeroValue4, t20 := Tryz.underlying20, a20 := Tryz.isAgg20, z20 := Tryz.sizeOf20, v20 := Tryz.zeroValue20,
    t37 := Tryz.underlying25, a37 := Tryz.isAgg25, z37 := Tryz.sizeOf25, v37 := Tryz.zeroValue25,
    t75 := Tryz.underlying55, a75 := Tryz.isAgg55, z75 := Tryz.sizeOf55, v75 := Tryz.zeroValue55,
    g14 := by kernel_rfl, t5 := Tryz.underlying5, a5 := Tryz.isAgg5, z5 := Tryz.sizeOf5,
    v5 := Tryz.zeroValue5, t9 := Tryz.underlying9, a9 := Tryz.isAgg9, z9 := Tryz.sizeOf9, v9 := Tryz.zeroValue9,
    t80 := Tryz.underlying196, a80 := Tryz.isAgg196, z80 := Tryz.sizeOf196, v80 := Tryz.zeroValue196,
    i0 := Eq.refl (some (some (Value.tuple #[]), 1, 0)), i3 := Eq.refl (some (some (Value.int IntKind.i64 0), 1, 8)),
    i4 := Eq.refl (some (some (Value.bool false), 1, 1)), i5 := Eq.refl (some (some (Value.int IntKind.u8 0), 1, 1)),
    i9 := Eq.refl (some (some (Value.string { data := #[] }), 1, 16)), i20 := Eq.refl (some (some Value.nilIface, 1, 16)),
    i37 := Eq.refl (some (some (Value.slice none 0 0), 1, 24)), i75 := Eq.refl (some (some Value.nilIface, 1, 16)),
    i80 := Eq.refl (some (some Value.nilFunc, 1, 8)), m14 := by kernel_rfl }
/-- what growSlice leaves: a new row that begins with the old one's cells, with room for so many more -/
def Grown (l n : Nat) (xs : List Value) (w : World) (e : Ending) (w' : World) : Prop :=
  ∃ (cap2 : Nat) (cells : Array Value), e = .returned (.slice (some ⟨w.heap.size, 0, none⟩) l cap2) ∧ w'.heap[w.heap.size]? = some (.cells cells 5 (0, 0)) ∧ cells.size = cap2 ∧ cells.toList.take l = xs ∧ l + n ≤ cap2 ∧ cap2 ≤ maxLen ∧ Kp w w'
theorem growSlice_c (g l c n : Nat) (cur : Array Value) (w : World) (hg : w.heap[g]? = some (.cells cur 5 (0, 0))) (hcs : cur.size = c) (hlc : l ≤ c) (hn : 1 ≤ n) (hlim : l + n ≤ 140737488355328) (hc2 : c ≤ 140737488355328) (h1 : ∀ v ∈ cur.toList.take l, v.oneCell' = true) :
    Calls Tryz.prog 114 #[.slice (some ⟨g, 0, none⟩) l c, .int .i64 (n : Int)] w (Grown l n (cur.toList.take l) w) := by
  have h := Any.bytes_growSlice_row growLay g l c n cur w hg hcs hlc hn hlim hc2 h1
  exact h
end Go.Proofs.YtobdohhabgnjiaaGreatDoor

set_option linter.all false
namespace Go.Proofs.YtobdohhabgnjiaaGreatDoor
open PubFl Go.RowKit

attribute [local go_sem] cell_ext frozen_ext ext_setCell cell_store size_ext_eq lt_p0 lt_p1 lt_p2 lt_p3 lt_p4 lt_p5 lt_p6 lt_p7 lt_p8 lt_p9 lt_p10 lt_p11 lt_p12 lt_p13 lt_p14 lt_p15 lt_p16 lt_p17 lt_p18 lt_p19 lt_p20 lt_p21 lt_p22 lt_p23 lt_p24 lt_p25 lt_p26 lt_p27 lt_p28 lt_p29 lt_p30 lt_p31 lt_p32 lt_q1 lt_q2 lt_q3 lt_q4 lt_q5 lt_q6 lt_q7 lt_q8 lt_q9 lt_q10 lt_q11 lt_q12 lt_q13 lt_q14 lt_q15 lt_q16 lt_q17 lt_q18 lt_q19 lt_q20 lt_q21 lt_q22 lt_q23 lt_q24 lt_q25 lt_q26 lt_q27 lt_q28 lt_q29 lt_q30 lt_q31 lt_q32 run_fop run_store_float
attribute [local go_sem high] cmp_eql cmp_neq cmp_lss cmp_leq cmp_gtr cmp_geq

@[go_sem] theorem eqnil_u8 (a : Addr) (n c : Nat) (w : World) : Sem.run Tryz.prog (binOp BinOp.eql 25 (.slice (some a) n c) (.slice none 0 0)) w = .ok (.bool false) w := by kernel_rfl
@[go_sem] theorem eqnil_u80 (w : World) : Sem.run Tryz.prog (binOp BinOp.eql 25 (.slice none 0 0) (.slice none 0 0)) w = .ok (.bool true) w := by kernel_rfl

/-- the buffer in block gB has room for n more in the row g2 -/
structure HasRow (gB g2 l n cap2 : Nat) (cells : Array Value) (xs : List Value) (w w' : World) : Prop where
  c0 : w'.cell? ⟨gB, 0, none⟩ = some (.slice (some ⟨g2, 0, none⟩) (l + n) cap2)
  c1 : w'.cell? ⟨gB, 1, none⟩ = some (.int .i64 0)
  c2 : w'.cell? ⟨gB, 2, none⟩ = w.cell? ⟨gB, 2, none⟩
  fz : ∀ j, w'.frozen? ⟨gB, j, none⟩ = w.frozen? ⟨gB, j, none⟩
  row : w'.heap[g2]? = some (.cells cells 5 (0, 0))
  size : cells.size = cap2
  take : cells.toList.take l = xs
  room : l + n ≤ cap2
  max : cap2 ≤ 9223372036854775807
  kx : Kx [gB] w w'
  ne : g2 ≠ gB

set_option maxRecDepth 20000 in
set_option maxHeartbeats 1000000 in
theorem tryGrow_c (gB gD cap l n : Nat) (w : World) (hlt : gB < w.heap.size) (h0 : w.cell? ⟨gB, 0, none⟩ = some (.slice (some ⟨gD, 0, none⟩) l cap)) (hz : ∀ j, w.frozen? ⟨gB, j, none⟩ = false) (hroom : l + n ≤ cap) (hsm : cap ≤ 9223372036854775807) :
    Calls Tryz.prog 112 #[.pointer (some ⟨gB, 0, none⟩), .int .i64 (n : Int)] w (fun e w' => e = .returned (.tuple #[.int .i64 (l : Int), .bool true]) ∧ w' = w.setCell ⟨gB, 0, none⟩ (.slice (some ⟨gD, 0, none⟩) (l + n) cap)) := by
  have z0 := hz 0
  have e1 : (n : Int) ≤ (cap : Int) - (l : Int) := by omega
  have e2 : (l : Int) + (n : Int) ≤ (cap : Int) := by omega
  clear hz
  go_enter Tryz.func112, Tryz.ntmps112
  go_wp2_with fail
  go_ret2
  exact ⟨rfl, rfl⟩
set_option maxRecDepth 20000 in
set_option maxHeartbeats 1000000 in
theorem tryGrow_no (gB cap l n : Nat) (a : Option Addr) (w : World) (h0 : w.cell? ⟨gB, 0, none⟩ = some (.slice a l cap)) (hlc : l ≤ cap) (hroom : cap < l + n) (hsm : cap ≤ 9223372036854775807) :
    Calls Tryz.prog 112 #[.pointer (some ⟨gB, 0, none⟩), .int .i64 (n : Int)] w (fun e w' => e = .returned (.tuple #[.int .i64 0, .bool false]) ∧ w' = w) := by
  have e1 : ((n : Int) ≤ (cap : Int) - (l : Int)) = False := eq_false (by omega)
  go_enter Tryz.func112, Tryz.ntmps112
  go_wp2_with fail
  go_ret2
  exact ⟨rfl, rfl⟩
theorem lenG_c (gB n c : Nat) (a : Option Addr) (w : World) (hlt : gB < w.heap.size) (b0 : w.cell? ⟨gB, 0, none⟩ = some (.slice a n c)) (b1 : w.cell? ⟨gB, 1, none⟩ = some (.int .i64 0)) (hn : n ≤ 10000000000000) : Calls Tryz.prog 47 #[.pointer (some ⟨gB, 0, none⟩)] w (Ret w (.int .i64 (n : Int))) := by
  go_enter Tryz.func47, Tryz.ntmps47
  go_wp2_with fail
  first | (with_reducible refine wp_region_ext_lit2 ?_ ?_ ?_) | refine wp_region_ext_lit ?_ ?_ ?_
  kernel_rfl
  kernel_rfl
  repeat (go_big_quiet_step (fail))
  refine wpQuiet_nil ?_
  rintro _ ⟨u, rfl⟩
  go_wp2_with fail
  go_ret
  exact Ret.mk rfl (by repeat (first | (with_reducible exact Kp.refl _) | (with_reducible assumption) | (with_reducible apply Kp.ext) | (with_reducible apply Kp.alloc) | (with_reducible apply Kp.drew) | (with_reducible apply Kp.drewN) | (with_reducible refine Kp.setCell ?_ (by first | (dsimp only; omega) | (simp; omega) | (simp; done) | (simp [size_ext_eq]; omega)) _)))

theorem hasRow_gen {gB g2 l n cap2 : Nat} {cells : Array Value} {xs : List Value} {w w2 : World} {x : Value} (k : Kx [gB] w w2) (h1 : w2.cell? ⟨gB, 1, none⟩ = some (.int .i64 0)) (h2 : w2.cell? ⟨gB, 2, none⟩ = w.cell? ⟨gB, 2, none⟩) (hf : ∀ j, w2.frozen? ⟨gB, j, none⟩ = w.frozen? ⟨gB, j, none⟩) (hne : g2 ≠ gB)
    (hr : w2.heap[g2]? = some (.cells cells 5 (0, 0))) (hs : cells.size = cap2) (ht : cells.toList.take l = xs) (hroom : l + n ≤ cap2) (hmax : cap2 ≤ 9223372036854775807) (h0 : w2.cell? ⟨gB, 0, none⟩ = some x) :
    HasRow gB g2 l n cap2 cells xs w (w2.setCell ⟨gB, 0, none⟩ (.slice (some ⟨g2, 0, none⟩) (l + n) cap2)) := by
  refine ⟨World.cell?_setCell_same _ _ _ h0, ?_, ?_, fun j => ?_, ?_, hs, ht, hroom, hmax, k.setCell (by simp) _ _, hne⟩
  · rw [World.cell?_setCell_other _ _ _ _ (by simp)]; exact h1
  · rw [World.cell?_setCell_other _ _ _ _ (by simp)]; exact h2
  · rw [World.frozen?_setCell]; exact hf j
  · rw [Below.heap_setCell _ _ _ _ (by dsimp only; omega)]; exact hr
theorem hasRow_new {gB g2 l n cap2 : Nat} {cells : Array Value} {xs : List Value} {w w2 : World} {x : Value} (hlt : gB < w.heap.size) (h1 : w.cell? ⟨gB, 1, none⟩ = some (.int .i64 0)) (k : Kp w w2) (hg : w.heap.size ≤ g2)
    (hr : w2.heap[g2]? = some (.cells cells 5 (0, 0))) (hs : cells.size = cap2) (ht : cells.toList.take l = xs) (hroom : l + n ≤ cap2) (hmax : cap2 ≤ 9223372036854775807) (h0 : w2.cell? ⟨gB, 0, none⟩ = some x) :
    HasRow gB g2 l n cap2 cells xs w (w2.setCell ⟨gB, 0, none⟩ (.slice (some ⟨g2, 0, none⟩) (l + n) cap2)) :=
  have kk := Kx.of_kp (S := []) k
  hasRow_gen (Kx.of_kp k) ((kk.cell hlt (by simp)).trans h1) (kk.cell hlt (by simp)) (fun j => kk.frozen hlt (by simp)) (by omega) hr hs ht hroom hmax h0
theorem hasRow_new3 {gB g2 l n cap2 : Nat} {cells : Array Value} {xs : List Value} {w w2 : World} {x y : Value} (z : Value) (hlt : gB < w.heap.size) (h1 : w2.cell? ⟨gB, 1, none⟩ = some y) (k : Kp w w2) (hg : w.heap.size ≤ g2)
    (hr : w2.heap[g2]? = some (.cells cells 5 (0, 0))) (hs : cells.size = cap2) (ht : cells.toList.take l = xs) (hroom : l + n ≤ cap2) (hmax : cap2 ≤ 9223372036854775807) (h0 : w2.cell? ⟨gB, 0, none⟩ = some x) :
    HasRow gB g2 l n cap2 cells xs w (((w2.setCell ⟨gB, 0, none⟩ z).setCell ⟨gB, 1, none⟩ (.int .i64 0)).setCell ⟨gB, 0, none⟩ (.slice (some ⟨g2, 0, none⟩) (l + n) cap2)) := by
  have kk := Kx.of_kp (S := []) k
  refine hasRow_gen (((Kx.of_kp k).setCell (by simp) _ _).setCell (by simp) _ _) (World.cell?_setCell_same _ _ _ ((World.cell?_setCell_other _ _ _ _ (by simp)).trans h1)) ?_ (fun j => ?_) (by omega) ?_ hs ht hroom hmax ((World.cell?_setCell_other _ _ _ _ (by simp)).trans (World.cell?_setCell_same _ _ _ h0))
  · rw [World.cell?_setCell_other _ _ _ _ (by simp), World.cell?_setCell_other _ _ _ _ (by simp)]; exact kk.cell hlt (by simp)
  · rw [World.frozen?_setCell, World.frozen?_setCell]; exact kk.frozen hlt (by simp)
  · rw [Below.heap_setCell _ _ _ _ (by dsimp only; omega), Below.heap_setCell _ _ _ _ (by dsimp only; omega)]; exact hr
/-- what grow leaves -/
def Grew (gB l n : Nat) (xs : List Value) (w : World) (e : Ending) (w' : World) : Prop := e = .returned (.int .i64 (l : Int)) ∧ ∃ g2 cap2 cells, w.heap.size ≤ g2 ∧ HasRow gB g2 l n cap2 cells xs w w'

set_option maxRecDepth 20000 in
set_option maxHeartbeats 1000000 in
theorem growNil_c (gB n : Nat) (w : World) (hlt : gB < w.heap.size) (h0 : w.cell? ⟨gB, 0, none⟩ = some (.slice none 0 0)) (h1 : w.cell? ⟨gB, 1, none⟩ = some (.int .i64 0)) (hz : ∀ j, w.frozen? ⟨gB, j, none⟩ = false) (hn : 0 < n ∧ n ≤ 64) :
    Calls Tryz.prog 113 #[.pointer (some ⟨gB, 0, none⟩), .int .i64 (n : Int)] w (Grew gB 0 n [] w) := by
  have z0 := hz 0
  have HT := Lib.hid (fun w' (k : Kp w w') => tryGrow_no gB 0 0 n none w' (Kp.cell k h0 hlt) (by omega) (by omega) (by omega))
  have HL := Lib.hid (lenG_c gB 0 0 none w hlt h0 h1 (by decide))
  obtain ⟨i0, hi', hz0, hz1, hz2⟩ := info_parts infoU8
  have hmk : ∀ w, (Instr.makeSlice 25 (.int .i64 (n : Int)) (.int .i64 64)).run Tryz.prog w = .ok (.slice (some ⟨w.heap.size, 0, none⟩) n 64) (w.alloc (.cells (madeCells #[.int .u8 0] 64) 5)) := fun w => by
    have := run_make (P := Tryz.prog) w 25 5 i0 (.int .u8 0) Tryz.underlying25 hi' hz0 .i64 .i64 (n : Int) 64 (by omega) (by omega) (by rw [hz2]; omega) (by omega)
    rw [this, hz1]
    simp
    rfl
  have Hz := Lib.hid hz
  have H0 := Lib.hid h0
  have H1 := Lib.hid h1
  have e64 : (n : Int) ≤ 64 := by omega
  clear hz hi' hz0 hz1 hz2
  go_enter Tryz.func113, Tryz.ntmps113
  go_wp2_with (first | (go_at_call 47; (with_reducible refine (HL.out).mono ?_); rintro e w1 ⟨rfl, u, hu⟩; have hk : Kp w w1 := (by rw [hu]; exact Kp.ext (Kp.refl w) u); have b0 := Kp.cell hk H0.out hlt; have b1 := Kp.cell hk H1.out hlt; have y0 := (Kx.frozen (S := []) (Kx.of_kp hk) (o := 0) hlt (by simp)).trans (Hz.out 0); have hlt1 := Nat.lt_of_lt_of_le hlt hk.size; clear hu h0 h1 z0) | (go_at_call 112; (with_reducible refine (HT.out _ (by assumption)).mono ?_); rintro e w2 ⟨rfl, rfl⟩))
  refine bodyPost_ret (v := .int .i64 0) (by simp [results, Tryz.results113, go_sem]) rfl ?_
  refine ⟨rfl, w2.heap.size, 64, madeCells #[.int .u8 0] 64, hk.size, ?_⟩
  rw [← World.setCell_alloc_past (w := w2) _ gB 0 _ hlt1]
  have e := hasRow_new (l := 0) (n := n) (cap2 := 64) (cells := madeCells #[.int .u8 0] 64) (xs := []) hlt H1.out (hk.alloc (.cells (madeCells #[.int .u8 0] 64) 5)) hk.size (heap_alloc_new _ _) (by simp [size_madeCells]) (by simp) (by omega) (by decide) (((Kx.of_kp (S := []) ((Kp.refl w2).alloc _)).cell hlt1 (by simp)).trans b0)
  rw [Nat.zero_add] at e
  exact e

set_option maxRecDepth 100000 in
set_option maxHeartbeats 2000000 in
theorem growRow_c (gB g l cap n : Nat) (cur : Array Value) (w : World) (hlt : gB < w.heap.size) (h0 : w.cell? ⟨gB, 0, none⟩ = some (.slice (some ⟨g, 0, none⟩) l cap)) (h1 : w.cell? ⟨gB, 1, none⟩ = some (.int .i64 0)) (hz : ∀ j, w.frozen? ⟨gB, j, none⟩ = false)
    (hr : w.heap[g]? = some (.cells cur 5 (0, 0))) (hcs : cur.size = cap) (hl : 0 < l) (hlc : l ≤ cap) (hn : 0 < n) (hroom : cap < l + n) (hlim : l + n ≤ 10000000000000) (hone : ∀ v ∈ cur.toList.take l, v.oneCell' = true) :
    Calls Tryz.prog 113 #[.pointer (some ⟨gB, 0, none⟩), .int .i64 (n : Int)] w (Grew gB l n (cur.toList.take l) w) := by
  have HT := Lib.hid (fun w' (k : Kp w w') => tryGrow_no gB cap l n _ w' (Kp.cell k h0 hlt) hlc hroom (by omega))
  have HL := Lib.hid (lenG_c gB l cap _ w hlt h0 h1 (by omega))
  have HG := Lib.hid (fun w' (k : w'.heap[g]? = some (.cells cur 5 (0, 0))) => growSlice_c g l cap n cur w' k hcs hlc hn (by omega) (by omega) hone)
  have Hz := Lib.hid hz
  have H0 := Lib.hid h0
  have H1 := Lib.hid h1
  have Hr := Lib.hid hr
  have hwn : IntKind.i64.wrap (n : Int) = n := by rw [IntKind.wrap_i64]; omega
  have e1 : (l : Int) ≤ (cap : Int) := by omega
  have e2 : ((n : Int) ≤ (cap : Int) / 2 - (l : Int)) = False := eq_false (by omega)
  have e3 : (9223372036854775807 - (cap : Int) - (n : Int) < (cap : Int)) = False := eq_false (by omega)
  have e4 : ((l : Int) == 0) = false := beq_eq_false_iff_ne.2 (by omega)
  have e5 : (l = 0) = False := eq_false (by omega)
  clear hz hr hone
  go_enter Tryz.func113, Tryz.ntmps113
  go_wp2_with (first | (go_at_call 47; (with_reducible refine (HL.out).mono ?_); rintro e w1 ⟨rfl, u, hu⟩; have hk : Kp w w1 := (by rw [hu]; exact Kp.ext (Kp.refl w) u); have b0 := Kp.cell hk H0.out hlt; have b1 := Kp.cell hk H1.out hlt; have y0 := (Kx.frozen (S := []) (Kx.of_kp hk) (o := 0) hlt (by simp)).trans (Hz.out 0); have y1 := (Kx.frozen (S := []) (Kx.of_kp hk) (o := 1) hlt (by simp)).trans (Hz.out 1); have hlt1 := Nat.lt_of_lt_of_le hlt hk.size; clear hu h0 h1) | (go_at_call 112; (with_reducible refine (HT.out _ (by assumption)).mono ?_); rintro e w2 ⟨rfl, rfl⟩))
  have mixed : Tryz.prog.follows Departure.mixedOrders = true := growLay.mixed
  have Hr0 := Lib.hid ((hk.block g (lt_heap' Hr.out)).trans Hr.out)
  go_region_with_o (
      go_at_call 114
      refine (HG.out _ ?_).mono ?_
      exact Hr0.out
      rintro e w3 ⟨cap2, cells, rfl, hN, hcsz, htk, hcap2, hcm2, hk3⟩
      have d0 := Kp.cell hk3 b0 hlt1
      have d1 := Kp.cell hk3 b1 hlt1
      have x0 := (Kx.frozen (S := []) (Kx.of_kp hk3) (o := 0) hlt1 (by simp)).trans y0
      have x1 := (Kx.frozen (S := []) (Kx.of_kp hk3) (o := 1) hlt1 (by simp)).trans y1)
  all_goals (
    have z2 := World.cell?_setCell_same w3 ⟨gB, 0, none⟩ (.slice (some ⟨w2.heap.size, 0, none⟩) l cap2) d0
    have hlt3 : gB < w3.heap.size := Nat.lt_of_lt_of_le hlt1 hk3.size
    have q1 : (l : Int) + (n : Int) ≤ (cap2 : Int) := by omega
    go_wp2_with fail
    refine bodyPost_ret (v := .int .i64 (l : Int)) (by simp [results, Tryz.results113, go_sem]) rfl ?_
    refine ⟨rfl, w2.heap.size, cap2, cells, hk.size, ?_⟩
    exact hasRow_new3 _ hlt d1 ((Kp.drew hk).trans hk3) hk.size hN hcsz htk hcap2 (by unfold maxLen at hcm2; omega) d0)
end Go.Proofs.YtobdohhabgnjiaaGreatDoor

set_option linter.all false
namespace Go.Proofs.YtobdohhabgnjiaaGreatDoor
open PubFl Go.RowKit

attribute [local go_sem] cell_ext frozen_ext ext_setCell cell_store size_ext_eq lt_p0 lt_p1 lt_p2 lt_p3 lt_p4 lt_p5 lt_p6 lt_p7 lt_p8 lt_p9 lt_p10 lt_p11 lt_p12 lt_p13 lt_p14 lt_p15 lt_p16 lt_p17 lt_p18 lt_p19 lt_p20 lt_p21 lt_p22 lt_p23 lt_p24 lt_p25 lt_p26 lt_p27 lt_p28 lt_p29 lt_p30 lt_p31 lt_p32 lt_q1 lt_q2 lt_q3 lt_q4 lt_q5 lt_q6 lt_q7 lt_q8 lt_q9 lt_q10 lt_q11 lt_q12 lt_q13 lt_q14 lt_q15 lt_q16 lt_q17 lt_q18 lt_q19 lt_q20 lt_q21 lt_q22 lt_q23 lt_q24 lt_q25 lt_q26 lt_q27 lt_q28 lt_q29 lt_q30 lt_q31 lt_q32 run_fop run_store_float
attribute [local go_sem high] cmp_eql cmp_neq cmp_lss cmp_leq cmp_gtr cmp_geq

/-- the row that the buffer in block gB has -/
def rowOf (w : World) (gB : Nat) : Option Nat := match w.cell? ⟨gB, 0, none⟩ with
  | some (.slice (some a) _ _) => some a.block
  | _ => none
theorem rowOf_eq {w w' : World} {gB : Nat} (h : w'.cell? ⟨gB, 0, none⟩ = w.cell? ⟨gB, 0, none⟩) : rowOf w' gB = rowOf w gB := by unfold rowOf; rw [h]
theorem rowOf_some {w : World} {gB g n c : Nat} (h : w.cell? ⟨gB, 0, none⟩ = some (.slice (some ⟨g, 0, none⟩) n c)) : rowOf w gB = some g := by unfold rowOf; rw [h]
theorem rowOf_none {w : World} {gB : Nat} (h : w.cell? ⟨gB, 0, none⟩ = some (.slice none 0 0)) : rowOf w gB = none := by unfold rowOf; rw [h]
/-- a world that keeps all but the blocks S, the buffer in gB and its row (the rows lie at gD or above) -/
structure Kb (S : List Nat) (gB : Nat) (gD : Nat × Nat) (w w' : World) : Prop where
  os : w'.os = w.os
  tape : w'.tape = w.tape
  output : w'.output = w.output
  size : w.heap.size ≤ w'.heap.size
  low : ∀ b, b < gD.2 → b ≠ gD.1 → b < w.heap.size → b ∉ S → b ≠ gB → w'.heap[b]? = w.heap[b]?
  block : gB < w.heap.size → ∀ b, b < w.heap.size → b ∉ S → b ≠ gB → rowOf w gB ≠ some b → w'.heap[b]? = w.heap[b]?
  row : gB < w.heap.size → rowOf w' gB = rowOf w gB ∨ ∃ g, rowOf w' gB = some g ∧ w.heap.size ≤ g
theorem Kb.refl (S : List Nat) (gB : Nat) (gD : Nat × Nat) (w : World) : Kb S gB gD w w := ⟨rfl, rfl, rfl, Nat.le_refl _, fun _ _ _ _ _ _ => rfl, fun _ _ _ _ _ _ => rfl, fun _ => .inl rfl⟩
theorem Kb.rowNe {S : List Nat} {gB : Nat} {gD : Nat × Nat} {w w' : World} (h : Kb S gB gD w w') (hl : gB < w.heap.size) {b : Nat} (hb : b < w.heap.size) (hn : rowOf w gB ≠ some b) : rowOf w' gB ≠ some b := by
  rcases h.row hl with e | ⟨g, e, hg⟩
  · rw [e]; exact hn
  · rw [e]; intro c; injection c with c; omega
theorem Kb.trans {S : List Nat} {gB : Nat} {gD : Nat × Nat} {a b c : World} (h : Kb S gB gD a b) (k : Kb S gB gD b c) : Kb S gB gD a c :=
  ⟨k.os.trans h.os, k.tape.trans h.tape, k.output.trans h.output, Nat.le_trans h.size k.size,
    fun i h1 h0 h2 h3 h4 => (k.low i h1 h0 (Nat.lt_of_lt_of_le h2 h.size) h3 h4).trans (h.low i h1 h0 h2 h3 h4),
    fun hl i h2 h3 h4 h5 => (k.block (Nat.lt_of_lt_of_le hl h.size) i (Nat.lt_of_lt_of_le h2 h.size) h3 h4 (h.rowNe hl h2 h5)).trans (h.block hl i h2 h3 h4 h5),
    fun hl => by
      rcases k.row (Nat.lt_of_lt_of_le hl h.size) with e | ⟨g, e, hg⟩
      · rw [e]; exact h.row hl
      · exact .inr ⟨g, e, Nat.le_trans h.size hg⟩⟩
theorem Kx.kb {S : List Nat} {w w' : World} (k : Kx S w w') {gB : Nat} (gD : Nat × Nat) (hn : gB ∉ S) : Kb S gB gD w w' :=
  ⟨k.os, k.tape, k.output, k.size, fun b _ _ h2 h3 _ => k.block b h2 h3, fun _ b h2 h3 _ _ => k.block b h2 h3, fun hl => .inl (rowOf_eq (k.cell hl hn))⟩
theorem Kb.of_kp {S : List Nat} {gB : Nat} {gD : Nat × Nat} {w w' : World} (k : Kp w w') : Kb S gB gD w w' :=
  ⟨k.os, k.tape, k.output, k.size, fun b _ _ h2 _ _ => k.block b h2, fun _ b h2 _ _ _ => k.block b h2, fun hl => .inl (rowOf_eq ((Kx.of_kp (S := []) k).cell hl (by simp)))⟩
theorem Kb.mono {S S' : List Nat} {gB : Nat} {gD : Nat × Nat} {w w' : World} (h : Kb S gB gD w w') (hs : ∀ b ∈ S, b ∈ S') : Kb S' gB gD w w' :=
  ⟨h.os, h.tape, h.output, h.size, fun b h1 h0 h2 h3 h4 => h.low b h1 h0 h2 (fun c => h3 (hs b c)) h4, fun hl b h2 h3 h4 h5 => h.block hl b h2 (fun c => h3 (hs b c)) h4 h5, h.row⟩
/-- a block that neither the buffer nor its row nor those of S lie in -/
structure NewG (S : List Nat) (w : World) (gB b : Nat) : Prop where
  lt : gB < w.heap.size
  notin : b ∉ S
  ne : b ≠ gB
  row : rowOf w gB ≠ some b
theorem Kb.cell {S : List Nat} {gB : Nat} {gD : Nat × Nat} {w w' : World} (h : Kb S gB gD w w') {b o : Nat} (hb : b < w.heap.size) (hn : NewG S w gB b) : w'.cell? ⟨b, o, none⟩ = w.cell? ⟨b, o, none⟩ := World.cell?_of_block (h.block hn.lt b hb hn.notin hn.ne hn.row)
theorem Kb.frozen {S : List Nat} {gB : Nat} {gD : Nat × Nat} {w w' : World} (h : Kb S gB gD w w') {b o : Nat} (hb : b < w.heap.size) (hn : NewG S w gB b) : w'.frozen? ⟨b, o, none⟩ = w.frozen? ⟨b, o, none⟩ := World.frozen?_of_block (h.block hn.lt b hb hn.notin hn.ne hn.row)

/-- a buffer in block gB that holds bytes, at most so many: nil, or a row at gD or above -/
structure BufW (w : World) (gB : Nat) (gD : Nat × Nat) (cap : Nat) (bs : List Nat) : Prop where
  st : (bs = [] ∧ w.cell? ⟨gB, 0, none⟩ = some (.slice none 0 0)) ∨ ∃ (g c : Nat) (cur : Array Value), w.cell? ⟨gB, 0, none⟩ = some (.slice (some ⟨g, 0, none⟩) bs.length c) ∧ (g = gD.1 ∨ gD.2 ≤ g) ∧ g ≠ gB ∧ w.heap[g]? = some (.cells cur 5 (0, 0)) ∧ cur.size = c ∧ cur.toList.take bs.length = bc bs ∧ bs.length ≤ c ∧ c ≤ 9223372036854775807 ∧ (0 < bs.length ∨ cap ≤ c)
  b1 : w.cell? ⟨gB, 1, none⟩ = some (.int .i64 0)
  b2 : ∃ r : Int, w.cell? ⟨gB, 2, none⟩ = some (.int .i8 r)
  bz : ∀ j, w.frozen? ⟨gB, j, none⟩ = false
  lt : gB < w.heap.size
  room : bs.length ≤ cap
  small : cap ≤ 10000000000000
  le : gD.2 ≤ w.heap.size
theorem BufW.kx {S : List Nat} {w w' : World} {gB : Nat} {gD : Nat × Nat} {cap : Nat} {bs : List Nat} (h : BufW w gB gD cap bs) (k : Kx S w w') (n1 : gB ∉ S) (n2 : ∀ b ∈ S, rowOf w gB ≠ some b) : BufW w' gB gD cap bs := by
  refine ⟨?_, (k.cell h.lt n1).trans h.b1, by obtain ⟨r, hr⟩ := h.b2; exact ⟨r, (k.cell h.lt n1).trans hr⟩, fun j => (k.frozen h.lt n1).trans (h.bz j), Nat.lt_of_lt_of_le h.lt k.size, h.room, h.small, Nat.le_trans h.le k.size⟩
  rcases h.st with ⟨e, h0⟩ | ⟨g, c, cur, h0, h1, h2, hr, hs⟩
  · exact .inl ⟨e, (k.cell h.lt n1).trans h0⟩
  · exact .inr ⟨g, c, cur, (k.cell h.lt n1).trans h0, h1, h2, (k.block g (lt_heap' hr) (fun c => n2 g c (rowOf_some h0))).trans hr, hs⟩
/-- the row lies below the world's end -/
theorem BufW.rowLt {w : World} {gB : Nat} {gD : Nat × Nat} {cap : Nat} {bs : List Nat} (h : BufW w gB gD cap bs) {b : Nat} (hb : w.heap.size ≤ b) : rowOf w gB ≠ some b := by
  rcases h.st with ⟨e, h0⟩ | ⟨g, c, cur, h0, h1, h2, hr, hs⟩
  · rw [rowOf_none h0]; intro c; cases c
  · rw [rowOf_some h0]; intro e; injection e with e; have := lt_heap' hr; omega
theorem BufW.rowLow {w : World} {gB : Nat} {gD : Nat × Nat} {cap : Nat} {bs : List Nat} (h : BufW w gB gD cap bs) {b : Nat} (hb : b < gD.2) (hb1 : b ≠ gD.1) : rowOf w gB ≠ some b := by
  rcases h.st with ⟨e, h0⟩ | ⟨g, c, cur, h0, h1, h2, hr, hs⟩
  · rw [rowOf_none h0]; intro c; cases c
  · rw [rowOf_some h0]; intro e; injection e with e; omega
theorem BufW.rowKp {w w' : World} {gB : Nat} {gD : Nat × Nat} {cap : Nat} {bs : List Nat} (h : BufW w gB gD cap bs) (k : Kp w w') : rowOf w' gB = rowOf w gB := rowOf_eq ((Kx.of_kp (S := []) k).cell h.lt (by simp))
theorem BufW.bytes {w : World} {gB : Nat} {gD : Nat × Nat} {cap : Nat} {bs : List Nat} (h : BufW w gB gD cap bs) (hp : 0 < bs.length) : ∃ g c, w.cell? ⟨gB, 0, none⟩ = some (.slice (some ⟨g, 0, none⟩) bs.length c) ∧ (g = gD.1 ∨ gD.2 ≤ g) ∧ g ≠ gB ∧ g < w.heap.size ∧ bs.length ≤ c ∧ c ≤ 9223372036854775807 ∧ BytesAt w g 0 bs := by
  rcases h.st with ⟨e, h0⟩ | ⟨g, c, cur, h0, h1, h2, hr, hs, ht, hl, hm, _⟩
  · rw [e] at hp; cases hp
  · refine ⟨g, c, h0, h1, h2, lt_heap' hr, hl, hm, fun i hi => ?_⟩
    have h1 : (cur.toList.take bs.length)[i]? = some (.int .u8 ((bs[i]'hi : Nat) : Int)) := by rw [ht]; exact bc_get bs i hi
    rw [List.getElem?_take_of_lt hi] at h1
    unfold World.cell?
    simp only [hr, Nat.zero_add]
    simpa using h1

/-- what Write leaves -/
def WroteB (gB : Nat) (gD : Nat × Nat) (cap : Nat) (bs qs : List Nat) (w : World) (e : Ending) (w' : World) : Prop := e = .returned (.tuple #[.int .i64 (qs.length : Int), .nilIface]) ∧ BufW w' gB gD cap (bs ++ qs) ∧ Kb [] gB gD w w'
theorem take_bc {bs qs : List Nat} {cur : List Value} (h : cur.take bs.length = bc bs) (hl : bs.length + qs.length ≤ cur.length) : (cur.take bs.length ++ (bc qs ++ cur.drop (bs.length + qs.length))).take (bs.length + qs.length) = bc (bs ++ qs) := by
  have e : (bc bs ++ bc qs).length = bs.length + qs.length := by rw [List.length_append, bc_length, bc_length]
  rw [h, bc_append, ← List.append_assoc, List.take_append_of_le_length (by rw [e]; exact Nat.le_refl _), List.take_of_length_le (by rw [e]; exact Nat.le_refl _)]
/-- bytes laid into the row -/
theorem wrote_of {gB : Nat} {gD : Nat × Nat} {cap g2 cap2 : Nat} {cells : Array Value} {bs qs : List Nat} {w w1 : World} (h : BufW w gB gD cap bs) (hroom : bs.length + qs.length ≤ cap) (hq : 0 < qs.length) (hg2 : rowOf w gB = some g2 ∨ w.heap.size ≤ g2) (hgD : g2 = gD.1 ∨ gD.2 ≤ g2)
    (k : HasRow gB g2 bs.length qs.length cap2 cells (bc bs) (w.setCell ⟨gB, 2, none⟩ (.int .i8 0)) w1) :
    BufW (w1.setRow g2 (cells.toList.take bs.length ++ (bc qs ++ cells.toList.drop (bs.length + qs.length))).toArray) gB gD cap (bs ++ qs) ∧ Kb [] gB gD w (w1.setRow g2 (cells.toList.take bs.length ++ (bc qs ++ cells.toList.drop (bs.length + qs.length))).toArray) := by
  obtain ⟨c0, c1, c2, cz, hr, hcs, htk, hrm, hmx, hkx, hne⟩ := k
  have kw : Kx [gB] w w1 := ((Kx.refl [gB] w).setCell (by simp) 2 _).trans hkx
  have kr : Kx [gB, g2] w (w1.setRow g2 (cells.toList.take bs.length ++ (bc qs ++ cells.toList.drop (bs.length + qs.length))).toArray) := (kw.mono (by simp)).setRow (by simp) _
  have ho : ∀ o, (w1.setRow g2 (cells.toList.take bs.length ++ (bc qs ++ cells.toList.drop (bs.length + qs.length))).toArray).cell? ⟨gB, o, none⟩ = w1.cell? ⟨gB, o, none⟩ := fun o => World.cell?_of_block (setRow_other _ _ _ _ (Ne.symm hne))
  have hf : ∀ o, (w1.setRow g2 (cells.toList.take bs.length ++ (bc qs ++ cells.toList.drop (bs.length + qs.length))).toArray).frozen? ⟨gB, o, none⟩ = w1.frozen? ⟨gB, o, none⟩ := fun o => World.frozen?_of_block (setRow_other _ _ _ _ (Ne.symm hne))
  have hl : cells.toList.length = cap2 := by rw [Array.length_toList]; exact hcs
  have hq2 : (bc qs).length = qs.length := bc_length qs
  have hrow : rowOf (w1.setRow g2 (cells.toList.take bs.length ++ (bc qs ++ cells.toList.drop (bs.length + qs.length))).toArray) gB = some g2 := rowOf_some ((ho 0).trans c0)
  obtain ⟨r, h2⟩ := h.b2
  refine ⟨⟨.inr ⟨g2, cap2, _, ?_, hgD, hne, setRow_heap _ _ _ _ _ _ hr, ?_, ?_, ?_, hmx, .inl ?_⟩, (ho 1).trans c1, ⟨0, ?_⟩, fun j => ?_, Nat.lt_of_lt_of_le h.lt kr.size, ?_, h.small, Nat.le_trans h.le kr.size⟩, ?_⟩
  · rw [List.length_append]; exact (ho 0).trans c0
  · simp only [List.size_toArray, List.length_append, List.length_take, List.length_drop, hl, hq2]
    omega
  · rw [List.length_append]
    exact take_bc htk (by omega)
  · rw [List.length_append]; exact hrm
  · rw [List.length_append]; omega
  · rw [ho, c2]; exact World.cell?_setCell_same _ _ _ h2
  · rw [hf, cz, World.frozen?_setCell]; exact h.bz j
  · rw [List.length_append]; exact hroom
  · refine ⟨kr.os, kr.tape, kr.output, kr.size, fun b h1 h0 h2 _ h4 => kr.block b h2 (by simp; omega), fun _ b h2 _ h4 h5 => kr.block b h2 ?_, fun _ => ?_⟩
    · rcases hg2 with e | e
      · rw [e] at h5; simp; exact ⟨h4, fun c => h5 (by rw [c])⟩
      · simp; omega
    · rw [hrow]
      rcases hg2 with e | e
      · exact .inl e.symm
      · exact .inr ⟨g2, rfl, e⟩

set_option maxRecDepth 20000 in
set_option maxHeartbeats 1000000 in
theorem write_room (gB : Nat) (gD : Nat × Nat) (cap : Nat) (bs qs : List Nat) (gR cR : Nat) (cur : Array Value) (g off c : Nat) (w : World) (h : BufW w gB gD cap bs) (hc0 : w.cell? ⟨gB, 0, none⟩ = some (.slice (some ⟨gR, 0, none⟩) bs.length cR)) (hgD : gR = gD.1 ∨ gD.2 ≤ gR) (hne : gR ≠ gB) (hr : w.heap[gR]? = some (.cells cur 5 (0, 0))) (hcs : cur.size = cR) (htk : cur.toList.take bs.length = bc bs) (hmx : cR ≤ 9223372036854775807) (hrm : bs.length + qs.length ≤ cR) (hroom : bs.length + qs.length ≤ cap) (hq : 0 < qs.length) (ha : BytesAt w g off qs) (n1 : g ≠ gB) :
    Calls Tryz.prog 110 #[.pointer (some ⟨gB, 0, none⟩), .slice (some ⟨g, off, none⟩) qs.length c] w (WroteB gB gD cap bs qs w) := by
  have H0 := Lib.hid h
  have hlt := h.lt
  have hsm := h.small
  have z2 := h.bz 2
  have z0 := h.bz 0
  have b1 := h.b1
  obtain ⟨r, b2⟩ := h.b2
  have HG := Lib.hid (tryGrow_c gB gR cR bs.length qs.length (w.setCell ⟨gB, 2, none⟩ (.int .i8 0)) (by simpa using hlt) (by rw [World.cell?_setCell_other _ _ _ _ (by simp)]; exact hc0) (fun j => by simpa using h.bz j) hrm hmx)
  have HR := Lib.hid (hasRow_gen (gB := gB) (g2 := gR) (l := bs.length) (n := qs.length) (cap2 := cR) (cells := cur) (xs := bc bs) (w := w.setCell ⟨gB, 2, none⟩ (.int .i8 0)) (Kx.refl [gB] _) (by rw [World.cell?_setCell_other _ _ _ _ (by simp)]; exact b1) rfl (fun _ => rfl) hne (by rw [Below.heap_setCell _ _ _ _ (by dsimp only; omega)]; exact hr) hcs htk hrm hmx (by rw [World.cell?_setCell_other _ _ _ _ (by simp)]; exact hc0))
  have Hrow := Lib.hid (rowOf_some hc0)
  have Ha := Lib.hid (show ∀ j u, (bc qs)[j]? = some u → ((w.setCell ⟨gB, 2, none⟩ (.int .i8 0)).setCell ⟨gB, 0, none⟩ (.slice (some ⟨gR, 0, none⟩) (bs.length + qs.length) cR)).cell? ((⟨g, off, none⟩ : Addr).add j) = some u from BytesAt.cells (fun i hi => by
    rw [World.cell?_setCell_other _ _ _ _ (fun e => n1 (by injection e with e; exact e.symm)), World.cell?_setCell_other _ _ _ _ (fun e => n1 (by injection e with e; exact e.symm))]; exact ha i hi))
  have hszU : (Tryz.prog.info? 5).map (·.size) = some 1 := by
    obtain ⟨i0, hi, _, hz1, _⟩ := info_parts infoU8
    rw [hi, Option.map_some, hz1]
  have HszU := Lib.hid hszU
  have Hone := Lib.hid (bc_one qs)
  have Hfit : Hid (bs.length + (bc qs).length ≤ cur.size) := Lib.hid (by rw [bc_length, hcs]; exact hrm)
  have e1 : (bs.length = cR) = False := eq_false (by omega)
  have e2 : (cR = bs.length) = False := eq_false (by omega)
  have e3 : (bs.length : Int) ≤ (bs.length : Int) + (qs.length : Int) := by omega
  clear hr ha htk hszU hcs b1 h
  go_enter Tryz.func110, Tryz.ntmps110
  go_wp2_with (first | (go_at_call 112; (with_reducible refine (HG.out).mono ?_); rintro e w1 ⟨rfl, rfl⟩) | (refine wpList_copy_own rfl (.tmp 29) (.tmp 30) 25 25 rfl 5 Tryz.underlying25 HszU.out gR bs.length _ _ ⟨g, off, none⟩ qs.length c rfl rfl cur 5 (HR.out).row (bc qs) ?hn Ha.out Hfit.out Hone.out ?_))
  case hn => rw [bc_length]; exact (Nat.min_self _).symm
  rw [bc_length]
  go_wp2_with fail
  go_ret2
  exact ⟨rfl, wrote_of H0.out hroom hq (.inl Hrow.out) hgD HR.out⟩
set_option maxRecDepth 20000 in
set_option maxHeartbeats 1000000 in
theorem write_grow (gB : Nat) (gD : Nat × Nat) (cap : Nat) (bs qs : List Nat) (a0 : Option Addr) (cR : Nat) (g off c : Nat) (w : World) (h : BufW w gB gD cap bs) (hc0 : w.cell? ⟨gB, 0, none⟩ = some (.slice a0 bs.length cR)) (hlc : bs.length ≤ cR) (hmx : cR ≤ 9223372036854775807) (hrm : cR < bs.length + qs.length) (hroom : bs.length + qs.length ≤ cap) (hq : 0 < qs.length) (ha : BytesAt w g off qs) (hg : g < w.heap.size) (n1 : g ≠ gB)
    (HG : Calls Tryz.prog 113 #[.pointer (some ⟨gB, 0, none⟩), .int .i64 (qs.length : Int)] (w.setCell ⟨gB, 2, none⟩ (.int .i8 0)) (Grew gB bs.length qs.length (bc bs) (w.setCell ⟨gB, 2, none⟩ (.int .i8 0)))) :
    Calls Tryz.prog 110 #[.pointer (some ⟨gB, 0, none⟩), .slice (some ⟨g, off, none⟩) qs.length c] w (WroteB gB gD cap bs qs w) := by
  have H0 := Lib.hid h
  have hlt := h.lt
  have hsm := h.small
  have hle := h.le
  have z2 := h.bz 2
  have z0 := h.bz 0
  obtain ⟨r, b2⟩ := h.b2
  have HT := Lib.hid (tryGrow_no gB cR bs.length qs.length a0 (w.setCell ⟨gB, 2, none⟩ (.int .i8 0)) (by rw [World.cell?_setCell_other _ _ _ _ (by simp)]; exact hc0) hlc hrm hmx)
  have HGr := Lib.hid HG
  have Ha := Lib.hid ha
  have hszU : (Tryz.prog.info? 5).map (·.size) = some 1 := by
    obtain ⟨i0, hi, _, hz1, _⟩ := info_parts infoU8
    rw [hi, Option.map_some, hz1]
  have HszU := Lib.hid hszU
  have Hone := Lib.hid (bc_one qs)
  have e3 : (bs.length : Int) ≤ (bs.length : Int) + (qs.length : Int) := by omega
  clear ha hszU h HG
  go_enter Tryz.func110, Tryz.ntmps110
  go_wp2_with (first | (go_at_call 112; (with_reducible refine (HT.out).mono ?_); rintro e w1 ⟨rfl, rfl⟩) | (go_at_call 113; (with_reducible refine (HGr.out).mono ?_); rintro e w2 ⟨rfl, g2, cap2, cells, hg2, hR⟩; have HR := Lib.hid hR; have d0 := hR.c0; have d1 := hR.room; have d2 := hR.max; have y0 := (hR.fz 0).trans (show (w.setCell ⟨gB, 2, none⟩ (.int .i8 0)).frozen? ⟨gB, 0, none⟩ = false by simpa using z0); have hl2 : gB < w2.heap.size := Nat.lt_of_lt_of_le (by simpa using hlt) hR.kx.size; have hga : g ≠ g2 := (by simp at hg2; omega); have Ha2 := Lib.hid (show ∀ j u, (bc qs)[j]? = some u → w2.cell? ((⟨g, off, none⟩ : Addr).add j) = some u from BytesAt.cells (BytesAt.kx (BytesAt.kx Ha.out hg ((Kx.refl [gB] w).setCell (by simp) 2 _) (by simpa using n1)) (by simpa using hg) hR.kx (by simpa using n1))); have Hfit : Hid (bs.length + (bc qs).length ≤ cells.size) := Lib.hid (by rw [bc_length, hR.size]; exact hR.room); have e4 : (bs.length : Int) ≤ (cap2 : Int) := (by omega); have e5 : (bs.length = cap2) = False := eq_false (by omega); have e6 : (cap2 = bs.length) = False := eq_false (by omega); clear hR b2 z2 z0) | (refine wpList_copy_own rfl (.tmp 29) (.tmp 30) 25 25 rfl 5 Tryz.underlying25 HszU.out g2 bs.length _ _ ⟨g, off, none⟩ qs.length c rfl rfl cells 5 (HR.out).row (bc qs) ?hn Ha2.out Hfit.out Hone.out ?_))
  case hn => rw [bc_length]; exact (Nat.min_self _).symm
  rw [bc_length]
  go_wp2_with fail
  go_ret2
  have hg3 : w.heap.size ≤ g2 := by simpa using hg2
  exact ⟨rfl, wrote_of H0.out hroom hq (.inr hg3) (.inr (Nat.le_trans hle hg3)) HR.out⟩
theorem write_c (gB : Nat) (gD : Nat × Nat) (cap : Nat) (bs qs : List Nat) (g off c : Nat) (w : World) (h : BufW w gB gD cap bs) (hroom : bs.length + qs.length ≤ cap) (hq : 0 < qs.length ∧ qs.length ≤ 64) (ha : BytesAt w g off qs) (hg : g < w.heap.size) (n1 : g ≠ gB) :
    Calls Tryz.prog 110 #[.pointer (some ⟨gB, 0, none⟩), .slice (some ⟨g, off, none⟩) qs.length c] w (WroteB gB gD cap bs qs w) := by
  have hsm := h.small
  have f0 : ∀ j, (w.setCell ⟨gB, 2, none⟩ (.int .i8 0)).frozen? ⟨gB, j, none⟩ = false := fun j => by simpa using h.bz j
  have f1 : (w.setCell ⟨gB, 2, none⟩ (.int .i8 0)).cell? ⟨gB, 1, none⟩ = some (.int .i64 0) := by rw [World.cell?_setCell_other _ _ _ _ (by simp)]; exact h.b1
  have f2 : gB < (w.setCell ⟨gB, 2, none⟩ (.int .i8 0)).heap.size := by simpa using h.lt
  rcases h.st with ⟨e, h0⟩ | ⟨gR, cR, cur, h0, h1, h2, hr, hs, ht, hl, hm, hp⟩
  · subst e
    exact write_grow gB gD cap [] qs none 0 g off c w h h0 (Nat.le_refl _) (by decide) (by simpa using hq.1) hroom hq.1 ha hg n1 (growNil_c gB qs.length _ f2 (by rw [World.cell?_setCell_other _ _ _ _ (by simp)]; exact h0) f1 f0 hq)
  · by_cases hc : bs.length + qs.length ≤ cR
    · exact write_room gB gD cap bs qs gR cR cur g off c w h h0 h1 h2 hr hs ht hm hc hroom hq.1 ha n1
    · have hp' : 0 < bs.length := by
        rcases hp with p | p
        · exact p
        · omega
      have hG := growRow_c gB gR bs.length cR qs.length cur (w.setCell ⟨gB, 2, none⟩ (.int .i8 0)) f2 (by rw [World.cell?_setCell_other _ _ _ _ (by simp)]; exact h0) f1 f0 (by rw [Below.heap_setCell _ _ _ _ (by dsimp only; omega)]; exact hr) hs hp' hl hq.1 (by omega) (by omega) (by rw [ht]; exact bc_one bs)
      rw [ht] at hG
      exact write_grow gB gD cap bs qs _ cR g off c w h h0 hl hm (by omega) hroom hq.1 ha hg n1 hG
end Go.Proofs.YtobdohhabgnjiaaGreatDoor

set_option linter.all false
namespace Go.Proofs.YtobdohhabgnjiaaGreatDoor
open PubFl Go.RowKit

attribute [local go_sem] cell_ext frozen_ext ext_setCell cell_store size_ext_eq lt_p0 lt_p1 lt_p2 lt_p3 lt_p4 lt_p5 lt_p6 lt_p7 lt_p8 lt_p9 lt_p10 lt_p11 lt_p12 lt_p13 lt_p14 lt_p15 lt_p16 lt_p17 lt_p18 lt_p19 lt_p20 lt_p21 lt_p22 lt_p23 lt_p24 lt_p25 lt_p26 lt_p27 lt_p28 lt_p29 lt_p30 lt_p31 lt_p32 lt_q1 lt_q2 lt_q3 lt_q4 lt_q5 lt_q6 lt_q7 lt_q8 lt_q9 lt_q10 lt_q11 lt_q12 lt_q13 lt_q14 lt_q15 lt_q16 lt_q17 lt_q18 lt_q19 lt_q20 lt_q21 lt_q22 lt_q23 lt_q24 lt_q25 lt_q26 lt_q27 lt_q28 lt_q29 lt_q30 lt_q31 lt_q32 run_fop run_store_float
attribute [local go_sem high] cmp_eql cmp_neq cmp_lss cmp_leq cmp_gtr cmp_geq

/-- a block of what was there before the buffer's rows -/
structure NotG (S : List Nat) (gB : Nat) (gD : Nat × Nat) (b : Nat) : Prop where
  notin : b ∉ S
  ne : b ≠ gB
  lt : b < gD.2
  ne1 : b ≠ gD.1
theorem Kb.cellL {S : List Nat} {gB : Nat} {gD : Nat × Nat} {w w' : World} (h : Kb S gB gD w w') {b o : Nat} (hb : b < w.heap.size) (hn : NotG S gB gD b) : w'.cell? ⟨b, o, none⟩ = w.cell? ⟨b, o, none⟩ := World.cell?_of_block (h.low b hn.lt hn.ne1 hb hn.notin hn.ne)
/-- blocks of what was there before the buffer's rows -/
structure OffG (S : List Nat) (gB : Nat) (gD : Nat × Nat) (lo hi : Nat) : Prop where
  off : ∀ b ∈ S, b < lo ∨ hi ≤ b
  offB : gB < lo ∨ hi ≤ gB
  offD : gD.1 < lo ∨ hi ≤ gD.1
  le : hi ≤ gD.2
theorem OffG.mono {S : List Nat} {gB : Nat} {gD : Nat × Nat} {lo hi l h : Nat} (o : OffG S gB gD lo hi) (h1 : lo ≤ l) (h2 : h ≤ hi) : OffG S gB gD l h := ⟨fun b hb => by have := o.off b hb; omega, by have := o.offB; omega, by have := o.offD; omega, Nat.le_trans h2 o.le⟩
theorem OffG.not {S : List Nat} {gB : Nat} {gD : Nat × Nat} {lo hi g : Nat} (o : OffG S gB gD lo hi) (h1 : lo ≤ g) (h2 : g < hi) : NotG S gB gD g := ⟨fun h => by have := o.off g h; omega, by have := o.offB; omega, Nat.lt_of_lt_of_le h2 o.le, by have := o.offD; omega⟩
theorem Kb.agree {S : List Nat} {gB : Nat} {gD : Nat × Nat} {lo hi : Nat} {w w' : World} (h : Kb S gB gD w w') (hh : hi ≤ w.heap.size) (o : OffG S gB gD lo hi) : Agree lo hi w w' := fun b h1 h2 => have n := o.not h1 h2; h.low b n.lt n.ne1 (Nat.lt_of_lt_of_le h2 hh) n.notin n.ne

/-- an encoder in block gE, its 16 bytes in gb, its buffer in gB, the buffer's row in gD -/
structure EncW (w : World) (gE gb gB : Nat) (gD : Nat × Nat) (cap : Nat) (big : Bool) (bs : List Nat) : Prop where
  e0 : w.cell? ⟨gE, 0, none⟩ = some (.slice (some ⟨gb, 0, none⟩) 16 16)
  e1 : w.cell? ⟨gE, 1, none⟩ = some (.iface 41 (.pointer (some ⟨gB, 0, none⟩)))
  e2 : w.cell? ⟨gE, 2, none⟩ = some (.int .u8 (ordN big))
  ez : ∀ j, w.frozen? ⟨gE, j, none⟩ = false
  ltE : gE < w.heap.size
  cells : Cells w gb 16
  bz : ∀ j, w.frozen? ⟨gb, j, none⟩ = false
  ltb : gb < w.heap.size
  buf : BufW w gB gD cap bs
  n1 : gE ≠ gb
  n2 : gE ≠ gB
  n3 : rowOf w gB ≠ some gE
  n4 : gb ≠ gB
  n5 : rowOf w gB ≠ some gb
theorem EncW.kx {S : List Nat} {w w' : World} {gE gb gB : Nat} {gD : Nat × Nat} {cap : Nat} {big : Bool} {bs : List Nat} (h : EncW w gE gb gB gD cap big bs) (k : Kx S w w') (m1 : gE ∉ S) (m2 : gb ∉ S) (m3 : gB ∉ S) (m4 : ∀ b ∈ S, rowOf w gB ≠ some b) : EncW w' gE gb gB gD cap big bs :=
  have er := rowOf_eq (k.cell (o := 0) h.buf.lt m3)
  ⟨(k.cell h.ltE m1).trans h.e0, (k.cell h.ltE m1).trans h.e1, (k.cell h.ltE m1).trans h.e2, fun j => (k.frozen h.ltE m1).trans (h.ez j), Nat.lt_of_lt_of_le h.ltE k.size, fun i hi => by
    obtain ⟨x, hx⟩ := h.cells i hi
    exact ⟨x, (k.cell h.ltb m2).trans hx⟩, fun j => (k.frozen h.ltb m2).trans (h.bz j), Nat.lt_of_lt_of_le h.ltb k.size, h.buf.kx k m3 m4, h.n1, h.n2, by rw [er]; exact h.n3, h.n4, by rw [er]; exact h.n5⟩
theorem EncW.kp {w w' : World} {gE gb gB : Nat} {gD : Nat × Nat} {cap : Nat} {big : Bool} {bs : List Nat} (h : EncW w gE gb gB gD cap big bs) (k : Kp w w') : EncW w' gE gb gB gD cap big bs := h.kx (S := []) (Kx.of_kp k) (by simp) (by simp) (by simp) (by simp)
theorem EncW.new {w : World} {gE gb gB : Nat} {gD : Nat × Nat} {cap : Nat} {big : Bool} {bs : List Nat} (h : EncW w gE gb gB gD cap big bs) {n : Nat} (hn : w.heap.size ≤ n) {W : World} (k : Kp w W) : NewG [gb] W gB n :=
  ⟨Nat.lt_of_lt_of_le h.buf.lt k.size, by have := h.ltb; simp; omega, by have := h.buf.lt; omega, by rw [h.buf.rowKp k]; exact h.buf.rowLt hn⟩
theorem EncW.low {w : World} {gE gb gB : Nat} {gD : Nat × Nat} {cap : Nat} {big : Bool} {bs : List Nat} (h : EncW w gE gb gB gD cap big bs) {g : Nat} (hg : g < gD.2) (h0 : g ≠ gD.1) (h1 : g ≠ gb) (h2 : g ≠ gB) : NewG [gb] w gB g := ⟨h.buf.lt, by simpa using h1, h2, h.buf.rowLow hg h0⟩
/-- .. and what lies at the head of its 16 bytes -/
structure EncP (w : World) (gE gb gB : Nat) (gD : Nat × Nat) (cap : Nat) (big : Bool) (bs pre : List Nat) : Prop where
  enc : EncW w gE gb gB gD cap big bs
  at0 : BytesAt w gb 0 pre
theorem EncP.kp {w w' : World} {gE gb gB : Nat} {gD : Nat × Nat} {cap : Nat} {big : Bool} {bs pre : List Nat} (h : EncP w gE gb gB gD cap big bs pre) (k : Kp w w') : EncP w' gE gb gB gD cap big bs pre := ⟨h.enc.kp k, h.at0.kp h.enc.ltb k⟩
theorem EncW.nil {w : World} {gE gb gB : Nat} {gD : Nat × Nat} {cap : Nat} {big : Bool} {bs : List Nat} (h : EncW w gE gb gB gD cap big bs) : EncP w gE gb gB gD cap big bs [] := ⟨h, fun i hi => by simp at hi⟩
/-- bytes put behind those -/
theorem EncP.put {w : World} {gE gb gB : Nat} {gD : Nat × Nat} {cap : Nat} {big : Bool} {bs pre : List Nat} (h : EncP w gE gb gB gD cap big bs pre) (n : Nat) (hn : n = pre.length) (qs : List Nat) (hq : n + qs.length ≤ 16) : EncP (putB w gb n qs) gE gb gB gD cap big bs (pre ++ qs) ∧ Kb [gb] gB gD w (putB w gb n qs) := by
  subst hn
  have k := putB_kx (S := [gb]) (w0 := w) (g := gb) (by simp) qs w pre.length (Kx.refl _ _)
  obtain ⟨⟨e0, e1, e2, ez, ltE, cells, bz, ltb, buf, n1, n2, n3, n4, n5⟩, at0⟩ := h
  have hB : gB ∉ [gb] := by simpa using fun e => n4 e.symm
  have er := rowOf_eq (k.cell (o := 0) buf.lt hB)
  refine ⟨⟨⟨(k.cell ltE (by simpa using n1)).trans e0, (k.cell ltE (by simpa using n1)).trans e1, (k.cell ltE (by simpa using n1)).trans e2, fun j => (k.frozen ltE (by simpa using n1)).trans (ez j), Nat.lt_of_lt_of_le ltE k.size, cells.put qs _, fun j => (putB_frozen _ _ _ _ _ _).trans (bz j), Nat.lt_of_lt_of_le ltb k.size, buf.kx k hB (by simpa using n5), n1, n2, by rw [er]; exact n3, n4, by rw [er]; exact n5⟩, ?_⟩, k.kb gD hB⟩
  refine BytesAt.append (fun i hi => ?_) ?_
  · rw [putB_other gb _ qs w _ (fun _ => .inl (by dsimp only; omega))]
    exact at0 i hi
  · rw [Nat.zero_add]
    exact putB_at qs _ cells hq
/-- the head of the 16 bytes written -/
theorem EncP.wrote {w w' : World} {gE gb gB : Nat} {gD : Nat × Nat} {cap : Nat} {big : Bool} {bs pre qs : List Nat} (h : EncP w gE gb gB gD cap big bs pre) (hw : BufW w' gB gD cap (bs ++ qs)) (k : Kb [] gB gD w w') : EncW w' gE gb gB gD cap big (bs ++ qs) := by
  obtain ⟨⟨e0, e1, e2, ez, ltE, cells, bz, ltb, buf, n1, n2, n3, n4, n5⟩, at0⟩ := h
  have m1 : NewG [] w gB gE := ⟨buf.lt, by simp, n2, n3⟩
  have m2 : NewG [] w gB gb := ⟨buf.lt, by simp, n4, n5⟩
  exact ⟨(k.cell ltE m1).trans e0, (k.cell ltE m1).trans e1, (k.cell ltE m1).trans e2, fun j => (k.frozen ltE m1).trans (ez j), Nat.lt_of_lt_of_le ltE k.size, fun i hi => by
    obtain ⟨x, hx⟩ := cells i hi
    exact ⟨x, (k.cell ltb m2).trans hx⟩, fun j => (k.frozen ltb m2).trans (bz j), Nat.lt_of_lt_of_le ltb k.size, hw, n1, n2, k.rowNe buf.lt ltE n3, n4, k.rowNe buf.lt ltb n5⟩
/-- what a writer leaves -/
def RetE (gE gb gB : Nat) (gD : Nat × Nat) (cap : Nat) (big : Bool) (bs qs : List Nat) (w : World) (e : Ending) (w' : World) : Prop := e = .returned .nilIface ∧ EncW w' gE gb gB gD cap big (bs ++ qs) ∧ Kb [gb] gB gD w w'

@[go_sem] theorem methW (x : Value) (w : World) : Sem.run Tryz.prog (method 321 41 x "Write") w = .ok (110, x) w := by kernel_rfl
/-- what a call leaves that puts bytes into the 16 -/
def RetP (gE gb gB : Nat) (gD : Nat × Nat) (cap : Nat) (big : Bool) (bs pre : List Nat) (w : World) (e : Ending) (w' : World) : Prop := e = .returned (.tuple #[]) ∧ EncP w' gE gb gB gD cap big bs pre ∧ Kb [gb] gB gD w w'
theorem encPut32 {w : World} {gE gb gB : Nat} {gD : Nat × Nat} {cap : Nat} {big : Bool} {bs pre : List Nat} (h : EncP w gE gb gB gD cap big bs pre) (v : Nat) (vi : Int) (hvi : vi = (v : Int)) (hv : v < 4294967296) (off n c : Nat) (ho : off = pre.length) (hn : 4 ≤ n) (hl : off + 4 ≤ 16) :
    Calls Tryz.prog 74 #[.int .u8 (ordN big), .slice (some ⟨gb, off, none⟩) n c, .int .u32 vi] w (RetP gE gb gB gD cap big bs (pre ++ num32 v big) w) := by
  subst hvi
  refine (put32_c v hv big gb off n c hn w (fun i hi => h.enc.cells (off + i) (by omega)) h.enc.bz).mono ?_
  rintro e w' ⟨rfl, rfl⟩
  obtain ⟨h1, h2⟩ := h.put off ho (num32 v big) (by rw [num32_length]; omega)
  exact ⟨rfl, h1, h2⟩
theorem encPut64 {w : World} {gE gb gB : Nat} {gD : Nat × Nat} {cap : Nat} {big : Bool} {bs pre : List Nat} (h : EncP w gE gb gB gD cap big bs pre) (v : Nat) (hv : v < 2 ^ 64) (off n c : Nat) (ho : off = pre.length) (hn : 8 ≤ n) (hnc : n ≤ c) (hl : off + 8 ≤ 16) :
    Calls Tryz.prog 75 #[.int .u8 (ordN big), .slice (some ⟨gb, off, none⟩) n c, .int .u64 (v : Int)] w (RetP gE gb gB gD cap big bs (pre ++ num64 v big) w) := by
  refine (put64_c v hv big gb off n c hn hnc w (fun i hi => h.enc.cells (off + i) (by omega)) h.enc.bz).mono ?_
  rintro e w' ⟨rfl, rfl⟩
  obtain ⟨h1, h2⟩ := h.put off ho (num64 v big) (by rw [num64_length]; omega)
  exact ⟨rfl, h1, h2⟩
/-- what writing the head of the 16 bytes leaves -/
def RetW (gE gb gB : Nat) (gD : Nat × Nat) (cap : Nat) (big : Bool) (bs qs : List Nat) (n : Nat) (w : World) (e : Ending) (w' : World) : Prop := e = .returned (.tuple #[.int .i64 (n : Int), .nilIface]) ∧ EncW w' gE gb gB gD cap big (bs ++ qs) ∧ Kb [gb] gB gD w w'
theorem encWrite {w : World} {gE gb gB : Nat} {gD : Nat × Nat} {cap : Nat} {big : Bool} {bs qs : List Nat} (h : EncP w gE gb gB gD cap big bs qs) (n c : Nat) (hn : n = qs.length) (h0 : 0 < n ∧ n ≤ 64) (hroom : bs.length + n ≤ cap) :
    Calls Tryz.prog 110 #[.pointer (some ⟨gB, 0, none⟩), .slice (some ⟨gb, 0, none⟩) n c] w (RetW gE gb gB gD cap big bs qs n w) := by
  subst hn
  refine (write_c gB gD cap bs qs gb 0 c w h.enc.buf hroom h0 h.at0 h.enc.ltb h.enc.n4).mono ?_
  rintro e w' ⟨rfl, hb, hk⟩
  exact ⟨rfl, h.wrote hb hk, hk.mono (by simp)⟩
theorem Kb.b1 {gb gB : Nat} {gD : Nat × Nat} {w w' : World} (k : Kb [gb] gB gD w w') : Kb [gb] gB gD w w' := k

set_option maxRecDepth 20000 in
set_option maxHeartbeats 1000000 in
theorem prefix0_c (gE gb gB : Nat) (gD : Nat × Nat) (cap : Nat) (big : Bool) (bs : List Nat) (t l : Nat) (ht : t < 8) (hl : l < 4294967296) (w : World) (h : EncW w gE gb gB gD cap big bs) (hroom : bs.length + 8 ≤ cap) :
    Calls Tryz.prog 76 #[.pointer (some ⟨gE, 0, none⟩), .int .u32 (t : Int), .int .i64 (l : Int), .int .i64 0] w (RetE gE gb gB gD cap big bs (num32 t big ++ num32 l big) w) := by
  have H := Lib.hid h
  have l1 := num32_length t big
  have l2 := num32_length l big
  obtain ⟨e0, e1, e2, ez, ltE, _, _, _, _, _, _, _, _, _⟩ := h
  have L1 := Lib.hid l1
  have L2 := Lib.hid l2
  clear ez l1 l2
  go_enter Tryz.func76, Tryz.ntmps76
  go_wp2_with fail
  first | (with_reducible refine wp_region_ext_tail2 9 ?_ ?_ ?_) | refine wp_region_ext_tail 9 ?_ ?_ ?_
  kernel_rfl
  kernel_rfl
  simp only [List.take_succ_cons, List.take_zero, List.drop_succ_cons, List.drop_zero]
  repeat (go_big_quiet_step (fail))
  refine wpQuiet_nil ?_
  rintro _ ⟨u, rfl⟩
  go_wp2_with (go_at_call 74; (with_reducible refine (encPut32 (H.out.kp (by repeat (first | (with_reducible exact Kp.refl _) | (with_reducible assumption) | (with_reducible apply Kp.ext) | (with_reducible apply Kp.alloc) | (with_reducible apply Kp.drew) | (with_reducible apply Kp.drewN) | (with_reducible refine Kp.setCell ?_ (by first | (dsimp only; omega) | (simp; omega) | (simp; done) | (simp [size_ext_eq]; omega)) _)))).nil t _ rfl (by omega) 0 16 16 rfl (by omega) (by omega)).mono ?_); rintro e w1 ⟨rfl, hp1, hk1⟩)
  have k1 : Kb [gb] gB gD w w1 := (Kb.of_kp (show Kp w (ext w u) from (by repeat (first | (with_reducible exact Kp.refl _) | (with_reducible assumption) | (with_reducible apply Kp.ext) | (with_reducible apply Kp.alloc) | (with_reducible apply Kp.drew) | (with_reducible apply Kp.drewN) | (with_reducible refine Kp.setCell ?_ (by first | (dsimp only; omega) | (simp; omega) | (simp; done) | (simp [size_ext_eq]; omega)) _))))).trans hk1.b1
  have H1 := Lib.hid hp1
  have K1 := Lib.hid k1
  clear e0 e1 e2 ltE hk1 k1
  obtain ⟨e0, e1, e2, ez, ltE, _, _, _, _, _, _, _, _, _⟩ := hp1.enc
  clear ez hp1
  first | (with_reducible refine wp_region_ext_tail2 11 ?_ ?_ ?_) | refine wp_region_ext_tail 11 ?_ ?_ ?_
  kernel_rfl
  kernel_rfl
  simp only [List.take_succ_cons, List.take_zero, List.drop_succ_cons, List.drop_zero]
  repeat (go_big_quiet_step (fail))
  refine wpQuiet_nil ?_
  rintro _ ⟨u, rfl⟩
  go_wp2_with (go_at_call 74; (with_reducible refine (encPut32 (H1.out.kp (by repeat (first | (with_reducible exact Kp.refl _) | (with_reducible assumption) | (with_reducible apply Kp.ext) | (with_reducible apply Kp.alloc) | (with_reducible apply Kp.drew) | (with_reducible apply Kp.drewN) | (with_reducible refine Kp.setCell ?_ (by first | (dsimp only; omega) | (simp; omega) | (simp; done) | (simp [size_ext_eq]; omega)) _)))) l _ rfl (by omega) 4 12 12 (by simp [L1.out]) (by omega) (by omega)).mono ?_); rintro e w2 ⟨rfl, hp2, hk2⟩)
  have k2 : Kb [gb] gB gD w w2 := K1.out.trans ((Kb.of_kp (show Kp w1 _ from (by repeat (first | (with_reducible exact Kp.refl _) | (with_reducible assumption) | (with_reducible apply Kp.ext) | (with_reducible apply Kp.alloc) | (with_reducible apply Kp.drew) | (with_reducible apply Kp.drewN) | (with_reducible refine Kp.setCell ?_ (by first | (dsimp only; omega) | (simp; omega) | (simp; done) | (simp [size_ext_eq]; omega)) _))))).trans hk2.b1)
  have H2 := Lib.hid hp2
  have K2 := Lib.hid k2
  clear e0 e1 e2 ltE hk2 k2
  obtain ⟨e0, e1, e2, ez, ltE, _, _, _, _, _, _, _, _, _⟩ := hp2.enc
  clear ez hp2
  go_region_held3 (fun w' => w'.cell? ⟨gE, 0, none⟩ = some (.slice (some ⟨gb, 0, none⟩) 16 16) ∧ w'.cell? ⟨gE, 1, none⟩ = some (.iface 41 (.pointer (some ⟨gB, 0, none⟩)))) (first | exact ⟨hp3.e0, hp3.e1⟩ | (simp [go_sem, *]; done))
    ((go_at_call 110; (with_reducible refine (encWrite (H2.out.kp (by repeat (first | (with_reducible exact Kp.refl _) | (with_reducible assumption) | (with_reducible apply Kp.ext) | (with_reducible apply Kp.alloc) | (with_reducible apply Kp.drew) | (with_reducible apply Kp.drewN) | (with_reducible refine Kp.setCell ?_ (by first | (dsimp only; omega) | (simp; omega) | (simp; done) | (simp [size_ext_eq]; omega)) _)))) 8 16 (by simp [L1.out, L2.out]) (by omega) hroom).mono ?_); rintro e w3 ⟨rfl, hp3, hk3⟩))
  go_wp2_with fail
  go_ret
  refine ⟨rfl, by simpa using hp3, K2.out.trans ((Kb.of_kp (show Kp w2 _ from (by repeat (first | (with_reducible exact Kp.refl _) | (with_reducible assumption) | (with_reducible apply Kp.ext) | (with_reducible apply Kp.alloc) | (with_reducible apply Kp.drew) | (with_reducible apply Kp.drewN) | (with_reducible refine Kp.setCell ?_ (by first | (dsimp only; omega) | (simp; omega) | (simp; done) | (simp [size_ext_eq]; omega)) _))))).trans hk3)⟩
end Go.Proofs.YtobdohhabgnjiaaGreatDoor

set_option linter.all false
namespace Go.Proofs.YtobdohhabgnjiaaGreatDoor
open PubFl Go.RowKit

attribute [local go_sem] cell_ext frozen_ext ext_setCell cell_store size_ext_eq lt_p0 lt_p1 lt_p2 lt_p3 lt_p4 lt_p5 lt_p6 lt_p7 lt_p8 lt_p9 lt_p10 lt_p11 lt_p12 lt_p13 lt_p14 lt_p15 lt_p16 lt_p17 lt_p18 lt_p19 lt_p20 lt_p21 lt_p22 lt_p23 lt_p24 lt_p25 lt_p26 lt_p27 lt_p28 lt_p29 lt_p30 lt_p31 lt_p32 lt_q1 lt_q2 lt_q3 lt_q4 lt_q5 lt_q6 lt_q7 lt_q8 lt_q9 lt_q10 lt_q11 lt_q12 lt_q13 lt_q14 lt_q15 lt_q16 lt_q17 lt_q18 lt_q19 lt_q20 lt_q21 lt_q22 lt_q23 lt_q24 lt_q25 lt_q26 lt_q27 lt_q28 lt_q29 lt_q30 lt_q31 lt_q32 run_fop run_store_float
attribute [local go_sem high] cmp_eql cmp_neq cmp_lss cmp_leq cmp_gtr cmp_geq
attribute [local go_sem] x_bits

set_option maxRecDepth 20000 in
set_option maxHeartbeats 1000000 in
theorem prefixS_c (gE gb gB : Nat) (gD : Nat × Nat) (cap : Nat) (big : Bool) (bs : List Nat) (t l s : Nat) (h1t : 1 ≤ t) (ht : t ≤ 7) (hl : l < 4294967296) (hs0 : 0 < s) (hs : s ≤ 999999) (w : World) (h : EncW w gE gb gB gD cap big bs) (hroom : bs.length + 12 ≤ cap) :
    Calls Tryz.prog 76 #[.pointer (some ⟨gE, 0, none⟩), .int .u32 (t : Int), .int .i64 (l : Int), .int .i64 (s : Int)] w (RetE gE gb gB gD cap big bs (num32 (t + 536870912) big ++ num32 s big ++ num32 l big) w) := by
  have H := Lib.hid h
  have l1 := num32_length (t + 536870912) big
  have l2 := num32_length s big
  have l3 := num32_length l big
  have e3 := or_kind t h1t ht
  have e4 : ((s : Int) == 0) = false := beq_eq_false_iff_ne.2 (by omega)
  have e5 : (s = 0) = False := eq_false (by omega)
  obtain ⟨e0, e1, e2, ez, ltE, _, _, _, _, _, _, _, _, _⟩ := h
  have L1 := Lib.hid l1
  have L2 := Lib.hid l2
  have L3 := Lib.hid l3
  clear ez l1 l2 l3
  go_enter Tryz.func76, Tryz.ntmps76
  go_wp2_with fail
  first | (with_reducible refine wp_region_ext_tail2 10 ?_ ?_ ?_) | refine wp_region_ext_tail 10 ?_ ?_ ?_
  kernel_rfl
  kernel_rfl
  simp only [List.take_succ_cons, List.take_zero, List.drop_succ_cons, List.drop_zero]
  repeat (go_big_quiet_step (fail))
  refine wpQuiet_nil ?_
  rintro _ ⟨u, rfl⟩
  go_wp2_with (go_at_call 74; (with_reducible refine (encPut32 (H.out.kp (by repeat (first | (with_reducible exact Kp.refl _) | (with_reducible assumption) | (with_reducible apply Kp.ext) | (with_reducible apply Kp.alloc) | (with_reducible apply Kp.drew) | (with_reducible apply Kp.drewN) | (with_reducible refine Kp.setCell ?_ (by first | (dsimp only; omega) | (simp; omega) | (simp; done) | (simp [size_ext_eq]; omega)) _)))).nil (t + 536870912) ((t : Int) + 536870912) (by omega) (by omega) 0 16 16 rfl (by omega) (by omega)).mono ?_); rintro e w1 ⟨rfl, hp1, hk1⟩)
  have k1 : Kb [gb] gB gD w w1 := (Kb.of_kp (show Kp w (ext w u) from (by repeat (first | (with_reducible exact Kp.refl _) | (with_reducible assumption) | (with_reducible apply Kp.ext) | (with_reducible apply Kp.alloc) | (with_reducible apply Kp.drew) | (with_reducible apply Kp.drewN) | (with_reducible refine Kp.setCell ?_ (by first | (dsimp only; omega) | (simp; omega) | (simp; done) | (simp [size_ext_eq]; omega)) _))))).trans hk1.b1
  have H1 := Lib.hid hp1
  have K1 := Lib.hid k1
  clear e0 e1 e2 e3 ltE hk1 k1
  obtain ⟨e0, e1, e2, ez, ltE, _, _, _, _, _, _, _, _, _⟩ := hp1.enc
  clear ez hp1
  first | (with_reducible refine wp_region_ext_tail2 11 ?_ ?_ ?_) | refine wp_region_ext_tail 11 ?_ ?_ ?_
  kernel_rfl
  kernel_rfl
  simp only [List.take_succ_cons, List.take_zero, List.drop_succ_cons, List.drop_zero]
  repeat (go_big_quiet_step (fail))
  refine wpQuiet_nil ?_
  rintro _ ⟨u, rfl⟩
  go_wp2_with (go_at_call 74; (with_reducible refine (encPut32 (H1.out.kp (by repeat (first | (with_reducible exact Kp.refl _) | (with_reducible assumption) | (with_reducible apply Kp.ext) | (with_reducible apply Kp.alloc) | (with_reducible apply Kp.drew) | (with_reducible apply Kp.drewN) | (with_reducible refine Kp.setCell ?_ (by first | (dsimp only; omega) | (simp; omega) | (simp; done) | (simp [size_ext_eq]; omega)) _)))) s _ rfl (by omega) 4 12 12 (by simp [L1.out]) (by omega) (by omega)).mono ?_); rintro e w2 ⟨rfl, hp2, hk2⟩)
  have k2 : Kb [gb] gB gD w w2 := K1.out.trans ((Kb.of_kp (show Kp w1 _ from (by repeat (first | (with_reducible exact Kp.refl _) | (with_reducible assumption) | (with_reducible apply Kp.ext) | (with_reducible apply Kp.alloc) | (with_reducible apply Kp.drew) | (with_reducible apply Kp.drewN) | (with_reducible refine Kp.setCell ?_ (by first | (dsimp only; omega) | (simp; omega) | (simp; done) | (simp [size_ext_eq]; omega)) _))))).trans hk2.b1)
  have H2 := Lib.hid hp2
  have K2 := Lib.hid k2
  clear e0 e1 e2 ltE hk2 k2
  obtain ⟨e0, e1, e2, ez, ltE, _, _, _, _, _, _, _, _, _⟩ := hp2.enc
  clear ez hp2
  first | (with_reducible refine wp_region_ext_tail2 11 ?_ ?_ ?_) | refine wp_region_ext_tail 11 ?_ ?_ ?_
  kernel_rfl
  kernel_rfl
  simp only [List.take_succ_cons, List.take_zero, List.drop_succ_cons, List.drop_zero]
  repeat (go_big_quiet_step (fail))
  refine wpQuiet_nil ?_
  rintro _ ⟨u, rfl⟩
  go_wp2_with (go_at_call 74; (with_reducible refine (encPut32 (H2.out.kp (by repeat (first | (with_reducible exact Kp.refl _) | (with_reducible assumption) | (with_reducible apply Kp.ext) | (with_reducible apply Kp.alloc) | (with_reducible apply Kp.drew) | (with_reducible apply Kp.drewN) | (with_reducible refine Kp.setCell ?_ (by first | (dsimp only; omega) | (simp; omega) | (simp; done) | (simp [size_ext_eq]; omega)) _)))) l _ rfl (by omega) 8 8 8 (by simp [L1.out, L2.out]) (by omega) (by omega)).mono ?_); rintro e w3 ⟨rfl, hp3, hk3⟩)
  have k3 : Kb [gb] gB gD w w3 := K2.out.trans ((Kb.of_kp (show Kp w2 _ from (by repeat (first | (with_reducible exact Kp.refl _) | (with_reducible assumption) | (with_reducible apply Kp.ext) | (with_reducible apply Kp.alloc) | (with_reducible apply Kp.drew) | (with_reducible apply Kp.drewN) | (with_reducible refine Kp.setCell ?_ (by first | (dsimp only; omega) | (simp; omega) | (simp; done) | (simp [size_ext_eq]; omega)) _))))).trans hk3.b1)
  have H3 := Lib.hid hp3
  have K3 := Lib.hid k3
  clear e0 e1 e2 ltE hk3 k3
  obtain ⟨e0, e1, e2, ez, ltE, _, _, _, _, _, _, _, _, _⟩ := hp3.enc
  clear ez hp3
  go_region_held3 (fun w' => w'.cell? ⟨gE, 0, none⟩ = some (.slice (some ⟨gb, 0, none⟩) 16 16) ∧ w'.cell? ⟨gE, 1, none⟩ = some (.iface 41 (.pointer (some ⟨gB, 0, none⟩)))) (first | exact ⟨hp4.e0, hp4.e1⟩ | (simp [go_sem, *]; done))
    ((go_at_call 110; (with_reducible refine (encWrite (H3.out.kp (by repeat (first | (with_reducible exact Kp.refl _) | (with_reducible assumption) | (with_reducible apply Kp.ext) | (with_reducible apply Kp.alloc) | (with_reducible apply Kp.drew) | (with_reducible apply Kp.drewN) | (with_reducible refine Kp.setCell ?_ (by first | (dsimp only; omega) | (simp; omega) | (simp; done) | (simp [size_ext_eq]; omega)) _)))) 12 16 (by simp [L1.out, L2.out, L3.out]) (by omega) hroom).mono ?_); rintro e w4 ⟨rfl, hp4, hk4⟩))
  go_wp2_with fail
  go_ret
  refine ⟨rfl, by simpa using hp4, K3.out.trans ((Kb.of_kp (show Kp w3 _ from (by repeat (first | (with_reducible exact Kp.refl _) | (with_reducible assumption) | (with_reducible apply Kp.ext) | (with_reducible apply Kp.alloc) | (with_reducible apply Kp.drew) | (with_reducible apply Kp.drewN) | (with_reducible refine Kp.setCell ?_ (by first | (dsimp only; omega) | (simp; omega) | (simp; done) | (simp [size_ext_eq]; omega)) _))))).trans hk4)⟩


set_option maxRecDepth 20000 in
set_option maxHeartbeats 2000000 in
theorem writePoint0_c (gE gb gB : Nat) (gD : Nat × Nat) (cap : Nat) (big : Bool) (bs : List Nat) (x y : Nat) (hx : x < 2 ^ 64) (hy : y < 2 ^ 64) (w : World) (h : EncW w gE gb gB gD cap big bs) (hroom : bs.length + 20 ≤ cap) :
    Calls Tryz.prog 50 #[.pointer (some ⟨gE, 0, none⟩), .agg #[.float .f64 x, .float .f64 y], .int .i64 0] w (RetE gE gb gB gD cap big bs (num32 1 big ++ ptsForm [(x, y)] big) w) := by
  have l1 := num32_length 1 big
  have l2 := num64_length x big
  have l3 := num64_length y big
  have epf : ptsForm [(x, y)] big = num64 x big ++ num64 y big := by unfold ptsForm; simp
  rw [epf]
  have L1 := Lib.hid l1
  have L2 := Lib.hid l2
  have L3 := Lib.hid l3
  clear l1 l2 l3 epf
  go_enter Tryz.func50, Tryz.ntmps50
  go_wp2_with fail
  have hk0 : Kp w (w.alloc (.cells #[.float .f64 x, .float .f64 y] 88)) := (by repeat (first | (with_reducible exact Kp.refl _) | (with_reducible assumption) | (with_reducible apply Kp.ext) | (with_reducible apply Kp.alloc) | (with_reducible apply Kp.drew) | (with_reducible apply Kp.drewN) | (with_reducible refine Kp.setCell ?_ (by first | (dsimp only; omega) | (simp; omega) | (simp; done) | (simp [size_ext_eq]; omega)) _)))
  have cx : (w.alloc (.cells #[.float .f64 x, .float .f64 y] 88)).cell? ⟨w.heap.size, 0, none⟩ = some (.float .f64 x) := by simp
  have cy : (w.alloc (.cells #[.float .f64 x, .float .f64 y] 88)).cell? ⟨w.heap.size, 1, none⟩ = some (.float .f64 y) := by simp
  have hlt : w.heap.size < (w.alloc (.cells #[.float .f64 x, .float .f64 y] 88)).heap.size := by simp
  have hnew := h.new (Nat.le_refl _) hk0
  have h0 := h.kp hk0
  generalize w.alloc (.cells #[.float .f64 x, .float .f64 y] 88) = W at *
  have H0 := Lib.hid h0
  have Cx := Lib.hid cx
  have Cy := Lib.hid cy
  obtain ⟨e0, e1, e2, ez, ltE, _, _, _, _, _, _, _, _, _⟩ := h0
  clear ez h cx cy
  first | (with_reducible refine wp_region_ext_tail2 8 ?_ ?_ ?_) | refine wp_region_ext_tail 8 ?_ ?_ ?_
  kernel_rfl
  kernel_rfl
  simp only [List.take_succ_cons, List.take_zero, List.drop_succ_cons, List.drop_zero]
  repeat (go_big_quiet_step (fail))
  refine wpQuiet_nil ?_
  rintro _ ⟨u, rfl⟩
  go_wp2_with (go_at_call 74; (with_reducible refine (encPut32 ((H0.out.kp (by repeat (first | (with_reducible exact Kp.refl _) | (with_reducible assumption) | (with_reducible apply Kp.ext) | (with_reducible apply Kp.alloc) | (with_reducible apply Kp.drew) | (with_reducible apply Kp.drewN) | (with_reducible refine Kp.setCell ?_ (by first | (dsimp only; omega) | (simp; omega) | (simp; done) | (simp [size_ext_eq]; omega)) _)))).nil) (1) (1) (by omega) (by omega) 0 16 16 (by simp) (by omega) (by omega)).mono ?_); rintro e w1 ⟨rfl, hp1, hk1⟩)
  have k1 : Kb [gb] gB gD W w1 := (Kb.refl _ _ _ W).trans ((Kb.of_kp (show Kp W _ from (by repeat (first | (with_reducible exact Kp.refl _) | (with_reducible assumption) | (with_reducible apply Kp.ext) | (with_reducible apply Kp.alloc) | (with_reducible apply Kp.drew) | (with_reducible apply Kp.drewN) | (with_reducible refine Kp.setCell ?_ (by first | (dsimp only; omega) | (simp; omega) | (simp; done) | (simp [size_ext_eq]; omega)) _))))).trans hk1.b1)
  have H1 := Lib.hid hp1
  have K1 := Lib.hid k1
  have c1x := (k1.cell (o := 0) hlt hnew).trans Cx.out
  have c1y := (k1.cell (o := 1) hlt hnew).trans Cy.out
  have s1 := k1.size
  have t1 : w.heap.size < w1.heap.size := Nat.lt_of_lt_of_le hlt s1
  clear  e0 e1 e2 ltE hk1 k1
  obtain ⟨e0, e1, e2, ez, ltE, _, _, _, _, _, _, _, _, _⟩ := hp1.enc
  clear ez hp1
  go_region_held3 (fun w' => w'.cell? ⟨gE, 0, none⟩ = some (.slice (some ⟨gb, 0, none⟩) 16 16) ∧ w'.cell? ⟨gE, 1, none⟩ = some (.iface 41 (.pointer (some ⟨gB, 0, none⟩)))) (first | exact ⟨hp2.e0, hp2.e1⟩ | (simp [go_sem, *]; done))
    ((go_at_call 110; (with_reducible refine (encWrite (H1.out.kp (by repeat (first | (with_reducible exact Kp.refl _) | (with_reducible assumption) | (with_reducible apply Kp.ext) | (with_reducible apply Kp.alloc) | (with_reducible apply Kp.drew) | (with_reducible apply Kp.drewN) | (with_reducible refine Kp.setCell ?_ (by first | (dsimp only; omega) | (simp; omega) | (simp; done) | (simp [size_ext_eq]; omega)) _)))) 4 16 (by simp [L1.out]) (by omega) (by omega)).mono ?_); rintro e w2 ⟨rfl, hp2, hk2⟩))
  go_wp2_with fail
  have k2 : Kb [gb] gB gD W w2 := K1.out.trans ((Kb.of_kp (show Kp w1 _ from (by repeat (first | (with_reducible exact Kp.refl _) | (with_reducible assumption) | (with_reducible apply Kp.ext) | (with_reducible apply Kp.alloc) | (with_reducible apply Kp.drew) | (with_reducible apply Kp.drewN) | (with_reducible refine Kp.setCell ?_ (by first | (dsimp only; omega) | (simp; omega) | (simp; done) | (simp [size_ext_eq]; omega)) _))))).trans hk2)
  have H2 := Lib.hid hp2
  have K2 := Lib.hid k2
  have c2x := (k2.cell (o := 0) hlt hnew).trans Cx.out
  have c2y := (k2.cell (o := 1) hlt hnew).trans Cy.out
  have s2 := k2.size
  have t2 : w.heap.size < w2.heap.size := Nat.lt_of_lt_of_le hlt s2
  clear c1x c1y e0 e1 e2 ltE hk2 k2
  obtain ⟨e0, e1, e2, ez, ltE, _, _, _, _, _, _, _, _, _⟩ := hp2
  clear ez
  first | (with_reducible refine wp_region_ext_tail2 11 ?_ ?_ ?_) | refine wp_region_ext_tail 11 ?_ ?_ ?_
  kernel_rfl
  kernel_rfl
  simp only [List.take_succ_cons, List.take_zero, List.drop_succ_cons, List.drop_zero]
  repeat (go_big_quiet_step (fail))
  refine wpQuiet_nil ?_
  rintro _ ⟨u, rfl⟩
  go_wp2_with (go_at_call 75; (with_reducible refine (encPut64 ((H2.out.kp (by repeat (first | (with_reducible exact Kp.refl _) | (with_reducible assumption) | (with_reducible apply Kp.ext) | (with_reducible apply Kp.alloc) | (with_reducible apply Kp.drew) | (with_reducible apply Kp.drewN) | (with_reducible refine Kp.setCell ?_ (by first | (dsimp only; omega) | (simp; omega) | (simp; done) | (simp [size_ext_eq]; omega)) _)))).nil) x hx 0 16 16 (by simp) (by omega) (by omega) (by omega)).mono ?_); rintro e w3 ⟨rfl, hp3, hk3⟩)
  have k3 : Kb [gb] gB gD W w3 := K2.out.trans ((Kb.of_kp (show Kp w2 _ from (by repeat (first | (with_reducible exact Kp.refl _) | (with_reducible assumption) | (with_reducible apply Kp.ext) | (with_reducible apply Kp.alloc) | (with_reducible apply Kp.drew) | (with_reducible apply Kp.drewN) | (with_reducible refine Kp.setCell ?_ (by first | (dsimp only; omega) | (simp; omega) | (simp; done) | (simp [size_ext_eq]; omega)) _))))).trans hk3.b1)
  have H3 := Lib.hid hp3
  have K3 := Lib.hid k3
  have c3x := (k3.cell (o := 0) hlt hnew).trans Cx.out
  have c3y := (k3.cell (o := 1) hlt hnew).trans Cy.out
  have s3 := k3.size
  have t3 : w.heap.size < w3.heap.size := Nat.lt_of_lt_of_le hlt s3
  clear c2x c2y e0 e1 e2 ltE hk3 k3
  obtain ⟨e0, e1, e2, ez, ltE, _, _, _, _, _, _, _, _, _⟩ := hp3.enc
  clear ez hp3
  first | (with_reducible refine wp_region_ext_tail2 12 ?_ ?_ ?_) | refine wp_region_ext_tail 12 ?_ ?_ ?_
  kernel_rfl
  kernel_rfl
  simp only [List.take_succ_cons, List.take_zero, List.drop_succ_cons, List.drop_zero]
  repeat (go_big_quiet_step (fail))
  refine wpQuiet_nil ?_
  rintro _ ⟨u, rfl⟩
  go_wp2_with (go_at_call 75; (with_reducible refine (encPut64 (H3.out.kp (by repeat (first | (with_reducible exact Kp.refl _) | (with_reducible assumption) | (with_reducible apply Kp.ext) | (with_reducible apply Kp.alloc) | (with_reducible apply Kp.drew) | (with_reducible apply Kp.drewN) | (with_reducible refine Kp.setCell ?_ (by first | (dsimp only; omega) | (simp; omega) | (simp; done) | (simp [size_ext_eq]; omega)) _)))) y hy 8 8 8 (by simp [L2.out]) (by omega) (by omega) (by omega)).mono ?_); rintro e w4 ⟨rfl, hp4, hk4⟩)
  have k4 : Kb [gb] gB gD W w4 := K3.out.trans ((Kb.of_kp (show Kp w3 _ from (by repeat (first | (with_reducible exact Kp.refl _) | (with_reducible assumption) | (with_reducible apply Kp.ext) | (with_reducible apply Kp.alloc) | (with_reducible apply Kp.drew) | (with_reducible apply Kp.drewN) | (with_reducible refine Kp.setCell ?_ (by first | (dsimp only; omega) | (simp; omega) | (simp; done) | (simp [size_ext_eq]; omega)) _))))).trans hk4.b1)
  have H4 := Lib.hid hp4
  have K4 := Lib.hid k4
  have c4x := (k4.cell (o := 0) hlt hnew).trans Cx.out
  have c4y := (k4.cell (o := 1) hlt hnew).trans Cy.out
  have s4 := k4.size
  have t4 : w.heap.size < w4.heap.size := Nat.lt_of_lt_of_le hlt s4
  clear c3x c3y e0 e1 e2 ltE hk4 k4
  obtain ⟨e0, e1, e2, ez, ltE, _, _, _, _, _, _, _, _, _⟩ := hp4.enc
  clear ez hp4
  go_region_held3 (fun w' => w'.cell? ⟨gE, 0, none⟩ = some (.slice (some ⟨gb, 0, none⟩) 16 16) ∧ w'.cell? ⟨gE, 1, none⟩ = some (.iface 41 (.pointer (some ⟨gB, 0, none⟩)))) (first | exact ⟨hp5.e0, hp5.e1⟩ | (simp [go_sem, *]; done))
    ((go_at_call 110; (with_reducible refine (encWrite (H4.out.kp (by repeat (first | (with_reducible exact Kp.refl _) | (with_reducible assumption) | (with_reducible apply Kp.ext) | (with_reducible apply Kp.alloc) | (with_reducible apply Kp.drew) | (with_reducible apply Kp.drewN) | (with_reducible refine Kp.setCell ?_ (by first | (dsimp only; omega) | (simp; omega) | (simp; done) | (simp [size_ext_eq]; omega)) _)))) 16 16 (by simp [L2.out, L3.out]) (by omega) (by simp [L1.out]; omega)).mono ?_); rintro e w5 ⟨rfl, hp5, hk5⟩))
  go_wp2_with fail
  go_ret
  refine ⟨rfl, by simpa using hp5, (Kb.of_kp hk0).trans (K4.out.trans ((Kb.of_kp (show Kp w4 _ from (by repeat (first | (with_reducible exact Kp.refl _) | (with_reducible assumption) | (with_reducible apply Kp.ext) | (with_reducible apply Kp.alloc) | (with_reducible apply Kp.drew) | (with_reducible apply Kp.drewN) | (with_reducible refine Kp.setCell ?_ (by first | (dsimp only; omega) | (simp; omega) | (simp; done) | (simp [size_ext_eq]; omega)) _))))).trans hk5))⟩

set_option maxRecDepth 20000 in
set_option maxHeartbeats 2000000 in
theorem writePointS_c (gE gb gB : Nat) (gD : Nat × Nat) (cap : Nat) (big : Bool) (bs : List Nat) (x y : Nat) (hx : x < 2 ^ 64) (hy : y < 2 ^ 64) (s : Nat) (hs0 : 0 < s) (hs : s ≤ 999999) (w : World) (h : EncW w gE gb gB gD cap big bs) (hroom : bs.length + 24 ≤ cap) :
    Calls Tryz.prog 50 #[.pointer (some ⟨gE, 0, none⟩), .agg #[.float .f64 x, .float .f64 y], .int .i64 (s : Int)] w (RetE gE gb gB gD cap big bs (num32 536870913 big ++ num32 s big ++ ptsForm [(x, y)] big) w) := by
  have l1 := num32_length 536870913 big
  have l4 := num32_length s big
  have L4 := Lib.hid l4
  clear l4
  have l2 := num64_length x big
  have l3 := num64_length y big
  have epf : ptsForm [(x, y)] big = num64 x big ++ num64 y big := by unfold ptsForm; simp
  rw [epf]
  have L1 := Lib.hid l1
  have L2 := Lib.hid l2
  have L3 := Lib.hid l3
  clear l1 l2 l3 epf
  have x4 : ((s : Int) == 0) = false := beq_eq_false_iff_ne.2 (by omega)
  have x5 : (s = 0) = False := eq_false (by omega)
  go_enter Tryz.func50, Tryz.ntmps50
  go_wp2_with fail
  have hk0 : Kp w (w.alloc (.cells #[.float .f64 x, .float .f64 y] 88)) := (by repeat (first | (with_reducible exact Kp.refl _) | (with_reducible assumption) | (with_reducible apply Kp.ext) | (with_reducible apply Kp.alloc) | (with_reducible apply Kp.drew) | (with_reducible apply Kp.drewN) | (with_reducible refine Kp.setCell ?_ (by first | (dsimp only; omega) | (simp; omega) | (simp; done) | (simp [size_ext_eq]; omega)) _)))
  have cx : (w.alloc (.cells #[.float .f64 x, .float .f64 y] 88)).cell? ⟨w.heap.size, 0, none⟩ = some (.float .f64 x) := by simp
  have cy : (w.alloc (.cells #[.float .f64 x, .float .f64 y] 88)).cell? ⟨w.heap.size, 1, none⟩ = some (.float .f64 y) := by simp
  have hlt : w.heap.size < (w.alloc (.cells #[.float .f64 x, .float .f64 y] 88)).heap.size := by simp
  have hnew := h.new (Nat.le_refl _) hk0
  have h0 := h.kp hk0
  generalize w.alloc (.cells #[.float .f64 x, .float .f64 y] 88) = W at *
  have H0 := Lib.hid h0
  have Cx := Lib.hid cx
  have Cy := Lib.hid cy
  obtain ⟨e0, e1, e2, ez, ltE, _, _, _, _, _, _, _, _, _⟩ := h0
  clear ez h cx cy
  first | (with_reducible refine wp_region_ext_tail2 8 ?_ ?_ ?_) | refine wp_region_ext_tail 8 ?_ ?_ ?_
  kernel_rfl
  kernel_rfl
  simp only [List.take_succ_cons, List.take_zero, List.drop_succ_cons, List.drop_zero]
  repeat (go_big_quiet_step (fail))
  refine wpQuiet_nil ?_
  rintro _ ⟨u, rfl⟩
  go_wp2_with (go_at_call 74; (with_reducible refine (encPut32 ((H0.out.kp (by repeat (first | (with_reducible exact Kp.refl _) | (with_reducible assumption) | (with_reducible apply Kp.ext) | (with_reducible apply Kp.alloc) | (with_reducible apply Kp.drew) | (with_reducible apply Kp.drewN) | (with_reducible refine Kp.setCell ?_ (by first | (dsimp only; omega) | (simp; omega) | (simp; done) | (simp [size_ext_eq]; omega)) _)))).nil) (536870913) (536870913) (by omega) (by omega) 0 16 16 (by simp) (by omega) (by omega)).mono ?_); rintro e w1 ⟨rfl, hp1, hk1⟩)
  have k1 : Kb [gb] gB gD W w1 := (Kb.refl _ _ _ W).trans ((Kb.of_kp (show Kp W _ from (by repeat (first | (with_reducible exact Kp.refl _) | (with_reducible assumption) | (with_reducible apply Kp.ext) | (with_reducible apply Kp.alloc) | (with_reducible apply Kp.drew) | (with_reducible apply Kp.drewN) | (with_reducible refine Kp.setCell ?_ (by first | (dsimp only; omega) | (simp; omega) | (simp; done) | (simp [size_ext_eq]; omega)) _))))).trans hk1.b1)
  have H1 := Lib.hid hp1
  have K1 := Lib.hid k1
  have c1x := (k1.cell (o := 0) hlt hnew).trans Cx.out
  have c1y := (k1.cell (o := 1) hlt hnew).trans Cy.out
  have s1 := k1.size
  have t1 : w.heap.size < w1.heap.size := Nat.lt_of_lt_of_le hlt s1
  clear  e0 e1 e2 ltE hk1 k1
  obtain ⟨e0, e1, e2, ez, ltE, _, _, _, _, _, _, _, _, _⟩ := hp1.enc
  clear ez hp1
  first | (with_reducible refine wp_region_ext_tail2 11 ?_ ?_ ?_) | refine wp_region_ext_tail 11 ?_ ?_ ?_
  kernel_rfl
  kernel_rfl
  simp only [List.take_succ_cons, List.take_zero, List.drop_succ_cons, List.drop_zero]
  repeat (go_big_quiet_step (fail))
  refine wpQuiet_nil ?_
  rintro _ ⟨u, rfl⟩
  go_wp2_with (go_at_call 74; (with_reducible refine (encPut32 (H1.out.kp (by repeat (first | (with_reducible exact Kp.refl _) | (with_reducible assumption) | (with_reducible apply Kp.ext) | (with_reducible apply Kp.alloc) | (with_reducible apply Kp.drew) | (with_reducible apply Kp.drewN) | (with_reducible refine Kp.setCell ?_ (by first | (dsimp only; omega) | (simp; omega) | (simp; done) | (simp [size_ext_eq]; omega)) _)))) (s) ((s : Int)) (by omega) (by omega) 4 12 12 (by simp [L1.out]) (by omega) (by omega)).mono ?_); rintro e w2 ⟨rfl, hp2, hk2⟩)
  have k2 : Kb [gb] gB gD W w2 := K1.out.trans ((Kb.of_kp (show Kp w1 _ from (by repeat (first | (with_reducible exact Kp.refl _) | (with_reducible assumption) | (with_reducible apply Kp.ext) | (with_reducible apply Kp.alloc) | (with_reducible apply Kp.drew) | (with_reducible apply Kp.drewN) | (with_reducible refine Kp.setCell ?_ (by first | (dsimp only; omega) | (simp; omega) | (simp; done) | (simp [size_ext_eq]; omega)) _))))).trans hk2.b1)
  have H2 := Lib.hid hp2
  have K2 := Lib.hid k2
  have c2x := (k2.cell (o := 0) hlt hnew).trans Cx.out
  have c2y := (k2.cell (o := 1) hlt hnew).trans Cy.out
  have s2 := k2.size
  have t2 : w.heap.size < w2.heap.size := Nat.lt_of_lt_of_le hlt s2
  clear c1x c1y e0 e1 e2 ltE hk2 k2
  obtain ⟨e0, e1, e2, ez, ltE, _, _, _, _, _, _, _, _, _⟩ := hp2.enc
  clear ez hp2
  go_region_held3 (fun w' => w'.cell? ⟨gE, 0, none⟩ = some (.slice (some ⟨gb, 0, none⟩) 16 16) ∧ w'.cell? ⟨gE, 1, none⟩ = some (.iface 41 (.pointer (some ⟨gB, 0, none⟩)))) (first | exact ⟨hp3.e0, hp3.e1⟩ | (simp [go_sem, *]; done))
    ((go_at_call 110; (with_reducible refine (encWrite (H2.out.kp (by repeat (first | (with_reducible exact Kp.refl _) | (with_reducible assumption) | (with_reducible apply Kp.ext) | (with_reducible apply Kp.alloc) | (with_reducible apply Kp.drew) | (with_reducible apply Kp.drewN) | (with_reducible refine Kp.setCell ?_ (by first | (dsimp only; omega) | (simp; omega) | (simp; done) | (simp [size_ext_eq]; omega)) _)))) 8 16 (by simp [L1.out, L4.out]) (by omega) (by omega)).mono ?_); rintro e w3 ⟨rfl, hp3, hk3⟩))
  go_wp2_with fail
  have k3 : Kb [gb] gB gD W w3 := K2.out.trans ((Kb.of_kp (show Kp w2 _ from (by repeat (first | (with_reducible exact Kp.refl _) | (with_reducible assumption) | (with_reducible apply Kp.ext) | (with_reducible apply Kp.alloc) | (with_reducible apply Kp.drew) | (with_reducible apply Kp.drewN) | (with_reducible refine Kp.setCell ?_ (by first | (dsimp only; omega) | (simp; omega) | (simp; done) | (simp [size_ext_eq]; omega)) _))))).trans hk3)
  have H3 := Lib.hid hp3
  have K3 := Lib.hid k3
  have c3x := (k3.cell (o := 0) hlt hnew).trans Cx.out
  have c3y := (k3.cell (o := 1) hlt hnew).trans Cy.out
  have s3 := k3.size
  have t3 : w.heap.size < w3.heap.size := Nat.lt_of_lt_of_le hlt s3
  clear c2x c2y e0 e1 e2 ltE hk3 k3
  obtain ⟨e0, e1, e2, ez, ltE, _, _, _, _, _, _, _, _, _⟩ := hp3
  clear ez
  first | (with_reducible refine wp_region_ext_tail2 11 ?_ ?_ ?_) | refine wp_region_ext_tail 11 ?_ ?_ ?_
  kernel_rfl
  kernel_rfl
  simp only [List.take_succ_cons, List.take_zero, List.drop_succ_cons, List.drop_zero]
  repeat (go_big_quiet_step (fail))
  refine wpQuiet_nil ?_
  rintro _ ⟨u, rfl⟩
  go_wp2_with (go_at_call 75; (with_reducible refine (encPut64 ((H3.out.kp (by repeat (first | (with_reducible exact Kp.refl _) | (with_reducible assumption) | (with_reducible apply Kp.ext) | (with_reducible apply Kp.alloc) | (with_reducible apply Kp.drew) | (with_reducible apply Kp.drewN) | (with_reducible refine Kp.setCell ?_ (by first | (dsimp only; omega) | (simp; omega) | (simp; done) | (simp [size_ext_eq]; omega)) _)))).nil) x hx 0 16 16 (by simp) (by omega) (by omega) (by omega)).mono ?_); rintro e w4 ⟨rfl, hp4, hk4⟩)
  have k4 : Kb [gb] gB gD W w4 := K3.out.trans ((Kb.of_kp (show Kp w3 _ from (by repeat (first | (with_reducible exact Kp.refl _) | (with_reducible assumption) | (with_reducible apply Kp.ext) | (with_reducible apply Kp.alloc) | (with_reducible apply Kp.drew) | (with_reducible apply Kp.drewN) | (with_reducible refine Kp.setCell ?_ (by first | (dsimp only; omega) | (simp; omega) | (simp; done) | (simp [size_ext_eq]; omega)) _))))).trans hk4.b1)
  have H4 := Lib.hid hp4
  have K4 := Lib.hid k4
  have c4x := (k4.cell (o := 0) hlt hnew).trans Cx.out
  have c4y := (k4.cell (o := 1) hlt hnew).trans Cy.out
  have s4 := k4.size
  have t4 : w.heap.size < w4.heap.size := Nat.lt_of_lt_of_le hlt s4
  clear c3x c3y e0 e1 e2 ltE hk4 k4
  obtain ⟨e0, e1, e2, ez, ltE, _, _, _, _, _, _, _, _, _⟩ := hp4.enc
  clear ez hp4
  first | (with_reducible refine wp_region_ext_tail2 12 ?_ ?_ ?_) | refine wp_region_ext_tail 12 ?_ ?_ ?_
  kernel_rfl
  kernel_rfl
  simp only [List.take_succ_cons, List.take_zero, List.drop_succ_cons, List.drop_zero]
  repeat (go_big_quiet_step (fail))
  refine wpQuiet_nil ?_
  rintro _ ⟨u, rfl⟩
  go_wp2_with (go_at_call 75; (with_reducible refine (encPut64 (H4.out.kp (by repeat (first | (with_reducible exact Kp.refl _) | (with_reducible assumption) | (with_reducible apply Kp.ext) | (with_reducible apply Kp.alloc) | (with_reducible apply Kp.drew) | (with_reducible apply Kp.drewN) | (with_reducible refine Kp.setCell ?_ (by first | (dsimp only; omega) | (simp; omega) | (simp; done) | (simp [size_ext_eq]; omega)) _)))) y hy 8 8 8 (by simp [L2.out]) (by omega) (by omega) (by omega)).mono ?_); rintro e w5 ⟨rfl, hp5, hk5⟩)
  have k5 : Kb [gb] gB gD W w5 := K4.out.trans ((Kb.of_kp (show Kp w4 _ from (by repeat (first | (with_reducible exact Kp.refl _) | (with_reducible assumption) | (with_reducible apply Kp.ext) | (with_reducible apply Kp.alloc) | (with_reducible apply Kp.drew) | (with_reducible apply Kp.drewN) | (with_reducible refine Kp.setCell ?_ (by first | (dsimp only; omega) | (simp; omega) | (simp; done) | (simp [size_ext_eq]; omega)) _))))).trans hk5.b1)
  have H5 := Lib.hid hp5
  have K5 := Lib.hid k5
  have c5x := (k5.cell (o := 0) hlt hnew).trans Cx.out
  have c5y := (k5.cell (o := 1) hlt hnew).trans Cy.out
  have s5 := k5.size
  have t5 : w.heap.size < w5.heap.size := Nat.lt_of_lt_of_le hlt s5
  clear c4x c4y e0 e1 e2 ltE hk5 k5
  obtain ⟨e0, e1, e2, ez, ltE, _, _, _, _, _, _, _, _, _⟩ := hp5.enc
  clear ez hp5
  go_region_held3 (fun w' => w'.cell? ⟨gE, 0, none⟩ = some (.slice (some ⟨gb, 0, none⟩) 16 16) ∧ w'.cell? ⟨gE, 1, none⟩ = some (.iface 41 (.pointer (some ⟨gB, 0, none⟩)))) (first | exact ⟨hp6.e0, hp6.e1⟩ | (simp [go_sem, *]; done))
    ((go_at_call 110; (with_reducible refine (encWrite (H5.out.kp (by repeat (first | (with_reducible exact Kp.refl _) | (with_reducible assumption) | (with_reducible apply Kp.ext) | (with_reducible apply Kp.alloc) | (with_reducible apply Kp.drew) | (with_reducible apply Kp.drewN) | (with_reducible refine Kp.setCell ?_ (by first | (dsimp only; omega) | (simp; omega) | (simp; done) | (simp [size_ext_eq]; omega)) _)))) 16 16 (by simp [L2.out, L3.out]) (by omega) (by simp [L1.out, L4.out]; omega)).mono ?_); rintro e w6 ⟨rfl, hp6, hk6⟩))
  go_wp2_with fail
  go_ret
  refine ⟨rfl, by simpa using hp6, (Kb.of_kp hk0).trans (K5.out.trans ((Kb.of_kp (show Kp w5 _ from (by repeat (first | (with_reducible exact Kp.refl _) | (with_reducible assumption) | (with_reducible apply Kp.ext) | (with_reducible apply Kp.alloc) | (with_reducible apply Kp.drew) | (with_reducible apply Kp.drewN) | (with_reducible refine Kp.setCell ?_ (by first | (dsimp only; omega) | (simp; omega) | (simp; done) | (simp [size_ext_eq]; omega)) _))))).trans hk6))⟩
end Go.Proofs.YtobdohhabgnjiaaGreatDoor

set_option linter.all false
namespace Go.Proofs.YtobdohhabgnjiaaGreatDoor
open PubFl Go.RowKit

attribute [local go_sem] cell_ext frozen_ext ext_setCell cell_store size_ext_eq lt_p0 lt_p1 lt_p2 lt_p3 lt_p4 lt_p5 lt_p6 lt_p7 lt_p8 lt_p9 lt_p10 lt_p11 lt_p12 lt_p13 lt_p14 lt_p15 lt_p16 lt_p17 lt_p18 lt_p19 lt_p20 lt_p21 lt_p22 lt_p23 lt_p24 lt_p25 lt_p26 lt_p27 lt_p28 lt_p29 lt_p30 lt_p31 lt_p32 lt_q1 lt_q2 lt_q3 lt_q4 lt_q5 lt_q6 lt_q7 lt_q8 lt_q9 lt_q10 lt_q11 lt_q12 lt_q13 lt_q14 lt_q15 lt_q16 lt_q17 lt_q18 lt_q19 lt_q20 lt_q21 lt_q22 lt_q23 lt_q24 lt_q25 lt_q26 lt_q27 lt_q28 lt_q29 lt_q30 lt_q31 lt_q32 run_fop run_store_float
attribute [local go_sem high] cmp_eql cmp_neq cmp_lss cmp_leq cmp_gtr cmp_geq
attribute [local go_sem] x_bits

/-- what a form of several parts has behind the order of bytes -/
def prefB (t s l : Nat) (big : Bool) : List Nat := if s = 0 then num32 t big ++ num32 l big else num32 (t + 536870912) big ++ num32 s big ++ num32 l big
def prefN (s : Nat) : Nat := if s = 0 then 8 else 12
theorem prefB_length (t s l : Nat) (big : Bool) : (prefB t s l big).length = prefN s := by
  unfold prefB prefN
  by_cases h : s = 0
  · rw [if_pos h, if_pos h, List.length_append, num32_length, num32_length]
  · rw [if_neg h, if_neg h, List.length_append, List.length_append, num32_length, num32_length, num32_length]
theorem prefN_le (s : Nat) : prefN s ≤ 12 := by unfold prefN; split <;> omega
theorem prefix_c (gE gb gB : Nat) (gD : Nat × Nat) (cap : Nat) (big : Bool) (bs : List Nat) (t l s : Nat) (ti si : Int) (hti : ti = (t : Int)) (hsi : si = (s : Int)) (h1t : 1 ≤ t) (ht : t ≤ 7) (hl : l < 4294967296) (hs : s ≤ 999999) (w : World) (h : EncW w gE gb gB gD cap big bs) (hroom : bs.length + prefN s ≤ cap) :
    Calls Tryz.prog 76 #[.pointer (some ⟨gE, 0, none⟩), .int .u32 ti, .int .i64 (l : Int), .int .i64 si] w (RetE gE gb gB gD cap big bs (prefB t s l big) w) := by
  subst hti hsi
  by_cases h0 : s = 0
  · subst h0
    have e : prefB t 0 l big = num32 t big ++ num32 l big := by unfold prefB; rw [if_pos rfl]
    rw [e]
    have hr : bs.length + 8 ≤ cap := hroom
    exact prefix0_c gE gb gB gD cap big bs t l (by omega) hl w h hr
  · have e : prefB t s l big = num32 (t + 536870912) big ++ num32 s big ++ num32 l big := by unfold prefB; rw [if_neg h0]
    rw [e]
    have hr : bs.length + 12 ≤ cap := by unfold prefN at hroom; rw [if_neg h0] at hroom; exact hroom
    exact prefixS_c gE gb gB gD cap big bs t l s h1t ht hl (by omega) hs w h hr

/-- bytes, and behind them those of so many points -/
def linB (acc : List Nat) (ps : List (Nat × Nat)) (big : Bool) (k : Nat) : List Nat := acc ++ ptsForm (ps.take k) big
theorem linB_zero (acc : List Nat) (ps : List (Nat × Nat)) (big : Bool) : linB acc ps big 0 = acc := by unfold linB ptsForm; simp
theorem linB_all (acc : List Nat) (ps : List (Nat × Nat)) (big : Bool) : linB acc ps big ps.length = acc ++ ptsForm ps big := by unfold linB; rw [List.take_of_length_le (Nat.le_refl _)]
theorem linB_succ (acc : List Nat) (ps : List (Nat × Nat)) (big : Bool) (k : Nat) (h : k < ps.length) : linB acc ps big (k + 1) = linB acc ps big k ++ (num64 (ps[k]'h).1 big ++ num64 (ps[k]'h).2 big) := by
  unfold linB
  rw [List.take_succ_eq_append_getElem h, ptsForm_snoc]
  simp only [List.append_assoc]
theorem linB_length (acc : List Nat) (ps : List (Nat × Nat)) (big : Bool) (k : Nat) (h : k ≤ ps.length) : (linB acc ps big k).length = acc.length + k * 16 := by
  unfold linB
  rw [List.length_append, ptsForm_length, List.length_take, Nat.min_eq_left h]

set_option maxRecDepth 20000 in
set_option maxHeartbeats 4000000 in
theorem writeLS_c (gE gb gB : Nat) (gD : Nat × Nat) (cap : Nat) (big : Bool) (bs : List Nat) (s : Nat) (hs : s ≤ 999999) (si : Int) (hsi : si = (s : Int)) (ps : List (Nat × Nat)) (h300 : ps.length ≤ 300) (hb : Bits ps) (g c : Nat) (w : World) (h : EncW w gE gb gB gD cap big bs) (hg : g < w.heap.size) (hgn : NotG [gb] gB gD g) (hpt : PtsAt w g 0 ps)
    (hroom : bs.length + prefN s + ps.length * 16 ≤ cap) :
    Calls Tryz.prog 52 #[.pointer (some ⟨gE, 0, none⟩), .slice (some ⟨g, 0, none⟩) ps.length c, .int .i64 si] w (RetE gE gb gB gD cap big bs (prefB 2 s ps.length big ++ ptsForm ps big) w) := by
  have HP := Lib.hid (prefix_c gE gb gB gD cap big bs 2 ps.length s 2 si rfl hsi (by decide) (by decide) (by omega) hs w h (by omega))
  have hlp := prefB_length 2 s ps.length big
  have hpn := prefN_le s
  have hlin := linB_all (bs ++ prefB 2 s ps.length big) ps big
  have hlen := fun k hk => linB_length (bs ++ prefB 2 s ps.length big) ps big k hk
  have hsuc := fun k hk => linB_succ (bs ++ prefB 2 s ps.length big) ps big k hk
  have hz := linB_zero (bs ++ prefB 2 s ps.length big) ps big
  simp only [List.length_append] at hlen
  rw [List.append_assoc] at hlin
  generalize prefB 2 s ps.length big = pf at *
  generalize linB (bs ++ pf) ps big = lin at *
  have Hlin := Lib.hid hlin
  have Hlen := Lib.hid hlen
  have Hsuc := Lib.hid hsuc
  have Hz := Lib.hid hz
  have Hlp := Lib.hid hlp
  have Hb := Lib.hid hb
  have Hpt := Lib.hid hpt
  have Hw := Lib.hid h
  clear hlin hlen hsuc hz hlp hb hpt hsi h
  obtain ⟨n, hn⟩ : ∃ n, ps.length = n := ⟨_, rfl⟩
  rw [hn] at HP h300 hroom Hlin ⊢
  have Hn := Lib.hid hn
  clear hn
  go_enter Tryz.func52, Tryz.ntmps52
  go_wp2_with (go_at_call 76; (with_reducible refine (HP.out).mono ?_); rintro e w1 ⟨rfl, hp1, hk1⟩)
  rw [← Hz.out] at hp1
  have H1 := Lib.hid hp1
  have K1 := Lib.hid hk1
  clear hp1 hk1
  go_loopw [7, 20] (fun s7 s20 wr => ∃ k : Nat, k ≤ n ∧ s20 = .int .i64 k ∧ s7 = .nilIface ∧ EncW wr gE gb gB gD cap big (lin k) ∧ Kb [gb] gB gD w wr) (fun _ s20 _ => n - (intOf s20).toNat)
  case atStart => exact ⟨0, Nat.zero_le _, rfl, rfl, H1.out, K1.out⟩
  case round =>
    obtain ⟨k, hkn, rfl, rfl, henc, hkx⟩ := hrel
    by_cases hlt : k < n
    · have hkp : k < ps.length := by have := Hn.out; omega
      obtain ⟨e0', e1'⟩ := Hpt.out k hkp
      have d0 := (hkx.cellL hg hgn).trans e0'
      have d1 := (hkx.cellL hg hgn).trans e1'
      have hgr := Nat.lt_of_lt_of_le hg hkx.size
      obtain ⟨b0, b1⟩ := Hb.out k hkp
      have hst := Hsuc.out k hkp
      have hle := Hlen.out k (by omega)
      obtain ⟨⟨px, py⟩, hq⟩ : ∃ q, ps[k]'hkp = q := ⟨_, rfl⟩
      rw [hq] at d0 d1 b0 b1 hst
      dsimp only at b0 b1 hst
      rw [Nat.zero_add] at d0 d1
      have hk1 : (k : Int) < (n : Int) := by omega
      have hlen2 : (lin k).length + 16 ≤ cap := by have := Hlp.out; omega
      generalize lin k = acc at *
      have Hst := Lib.hid hst
      have hpl := num64_length px big
      have hpl2 := num64_length py big
      have L2 := Lib.hid hpl
      have L3 := Lib.hid hpl2
      clear hq hst e0' e1' hle hpl hpl2
      have KX := Lib.hid hkx
      have hsw := hkx.size
      go_wp2_with fail
      have hk0 : Kp wr (wr.alloc (.cells #[.float .f64 px, .float .f64 py] 88)) := (by repeat (first | (with_reducible exact Kp.refl _) | (with_reducible assumption) | (with_reducible apply Kp.ext) | (with_reducible apply Kp.alloc) | (with_reducible apply Kp.drew) | (with_reducible apply Kp.drewN) | (with_reducible refine Kp.setCell ?_ (by first | (dsimp only; omega) | (simp; omega) | (simp; done) | (simp [size_ext_eq]; omega)) _)))
      have cx : (wr.alloc (.cells #[.float .f64 px, .float .f64 py] 88)).cell? ⟨wr.heap.size, 0, none⟩ = some (.float .f64 px) := by simp
      have cy : (wr.alloc (.cells #[.float .f64 px, .float .f64 py] 88)).cell? ⟨wr.heap.size, 1, none⟩ = some (.float .f64 py) := by simp
      have hlt0 : wr.heap.size < (wr.alloc (.cells #[.float .f64 px, .float .f64 py] 88)).heap.size := by simp
      have h0 := henc.kp hk0; have hnew := henc.new (Nat.le_refl _) hk0
      generalize wr.alloc (.cells #[.float .f64 px, .float .f64 py] 88) = W at *
      have H0 := Lib.hid h0
      have Cx := Lib.hid cx
      have Cy := Lib.hid cy
      have HK0 := Lib.hid hk0
      obtain ⟨e0, e1, e2, ez, ltE, _, _, _, _, _, _, _, _, _⟩ := h0
      clear ez henc cx cy hkx d0 d1 hk0
      have c0x := Cx.out
      first | (with_reducible refine wp_region_ext_tail2 11 ?_ ?_ ?_) | refine wp_region_ext_tail 11 ?_ ?_ ?_
      kernel_rfl
      kernel_rfl
      simp only [List.take_succ_cons, List.take_zero, List.drop_succ_cons, List.drop_zero]
      repeat (go_big_quiet_step (fail))
      refine wpQuiet_nil ?_
      rintro _ ⟨u, rfl⟩
      go_wp2_with (go_at_call 75; (with_reducible refine (encPut64 (H0.out.kp (by repeat (first | (with_reducible exact Kp.refl _) | (with_reducible assumption) | (with_reducible apply Kp.ext) | (with_reducible apply Kp.alloc) | (with_reducible apply Kp.drew) | (with_reducible apply Kp.drewN) | (with_reducible refine Kp.setCell ?_ (by first | (dsimp only; omega) | (simp; omega) | (simp; done) | (simp [size_ext_eq]; omega)) _)))).nil px b0 0 16 16 (by simp) (by omega) (by omega) (by omega)).mono ?_); rintro e w2 ⟨rfl, hp2, hk2⟩)
      have k2 : Kb [gb] gB gD W w2 := (Kb.of_kp (show Kp W _ from (by repeat (first | (with_reducible exact Kp.refl _) | (with_reducible assumption) | (with_reducible apply Kp.ext) | (with_reducible apply Kp.alloc) | (with_reducible apply Kp.drew) | (with_reducible apply Kp.drewN) | (with_reducible refine Kp.setCell ?_ (by first | (dsimp only; omega) | (simp; omega) | (simp; done) | (simp [size_ext_eq]; omega)) _))))).trans hk2.b1
      have H2 := Lib.hid hp2
      have K2 := Lib.hid k2
      have c2y := (k2.cell (o := 1) hlt0 hnew).trans Cy.out
      have t2 : wr.heap.size < w2.heap.size := Nat.lt_of_lt_of_le hlt0 k2.size
      clear c0x e0 e1 e2 ltE hk2 k2
      obtain ⟨e0, e1, e2, ez, ltE, _, _, _, _, _, _, _, _, _⟩ := hp2.enc
      clear ez hp2
      first | (with_reducible refine wp_region_ext_tail2 12 ?_ ?_ ?_) | refine wp_region_ext_tail 12 ?_ ?_ ?_
      kernel_rfl
      kernel_rfl
      simp only [List.take_succ_cons, List.take_zero, List.drop_succ_cons, List.drop_zero]
      repeat (go_big_quiet_step (fail))
      refine wpQuiet_nil ?_
      rintro _ ⟨u, rfl⟩
      go_wp2_with (go_at_call 75; (with_reducible refine (encPut64 (H2.out.kp (by repeat (first | (with_reducible exact Kp.refl _) | (with_reducible assumption) | (with_reducible apply Kp.ext) | (with_reducible apply Kp.alloc) | (with_reducible apply Kp.drew) | (with_reducible apply Kp.drewN) | (with_reducible refine Kp.setCell ?_ (by first | (dsimp only; omega) | (simp; omega) | (simp; done) | (simp [size_ext_eq]; omega)) _)))) py b1 8 8 8 (by simp [L2.out]) (by omega) (by omega) (by omega)).mono ?_); rintro e w3 ⟨rfl, hp3, hk3⟩)
      have k3 : Kb [gb] gB gD W w3 := K2.out.trans ((Kb.of_kp (show Kp w2 _ from (by repeat (first | (with_reducible exact Kp.refl _) | (with_reducible assumption) | (with_reducible apply Kp.ext) | (with_reducible apply Kp.alloc) | (with_reducible apply Kp.drew) | (with_reducible apply Kp.drewN) | (with_reducible refine Kp.setCell ?_ (by first | (dsimp only; omega) | (simp; omega) | (simp; done) | (simp [size_ext_eq]; omega)) _))))).trans hk3.b1)
      have H3 := Lib.hid hp3
      have K3 := Lib.hid k3
      clear c2y e0 e1 e2 ltE hk3 k3
      obtain ⟨e0, e1, e2, ez, ltE, _, _, _, _, _, _, _, _, _⟩ := hp3.enc
      clear ez hp3
      go_region_held3 (fun w' => w'.cell? ⟨gE, 0, none⟩ = some (.slice (some ⟨gb, 0, none⟩) 16 16) ∧ w'.cell? ⟨gE, 1, none⟩ = some (.iface 41 (.pointer (some ⟨gB, 0, none⟩)))) (first | exact ⟨hp4.e0, hp4.e1⟩ | (simp [go_sem, *]; done))
        ((go_at_call 110; (with_reducible refine (encWrite (H3.out.kp (by repeat (first | (with_reducible exact Kp.refl _) | (with_reducible assumption) | (with_reducible apply Kp.ext) | (with_reducible apply Kp.alloc) | (with_reducible apply Kp.drew) | (with_reducible apply Kp.drewN) | (with_reducible refine Kp.setCell ?_ (by first | (dsimp only; omega) | (simp; omega) | (simp; done) | (simp [size_ext_eq]; omega)) _)))) 16 16 (by simp [L2.out, L3.out]) (by omega) (by omega)).mono ?_); rintro e w4 ⟨rfl, hp4, hk4⟩))
      have k4 : Kb [gb] gB gD w w4 := KX.out.trans ((Kb.of_kp HK0.out).trans (K3.out.trans ((Kb.of_kp (show Kp w3 _ from (by repeat (first | (with_reducible exact Kp.refl _) | (with_reducible assumption) | (with_reducible apply Kp.ext) | (with_reducible apply Kp.alloc) | (with_reducible apply Kp.drew) | (with_reducible apply Kp.drewN) | (with_reducible refine Kp.setCell ?_ (by first | (dsimp only; omega) | (simp; omega) | (simp; done) | (simp [size_ext_eq]; omega)) _))))).trans hk4)))
      have e4 : acc ++ ([] ++ num64 px big ++ num64 py big) = lin (k + 1) := by rw [Hst.out, List.nil_append]
      rw [e4] at hp4
      have H4 := Lib.hid hp4
      have K4 := Lib.hid k4
      clear hp4 hk4 k4 e4 e0 e1 e2 ltE
      go_wp2_with fail
      go_roundw
      case rel => exact ⟨k + 1, by omega, by go_num, rfl, H4.out, K4.out⟩
      case measure => simp [intOf]; omega
    · obtain rfl : k = n := by omega
      have H4 := Lib.hid henc
      have K4 := Lib.hid hkx
      clear henc hkx
      go_wp2_with fail
      go_ret
      exact ⟨rfl, by have h := H4.out; rw [Hlin.out] at h; exact h, K4.out⟩
end Go.Proofs.YtobdohhabgnjiaaGreatDoor

set_option linter.all false
namespace Go.Proofs.YtobdohhabgnjiaaGreatDoor
open PubFl Go.RowKit

attribute [local go_sem] cell_ext frozen_ext ext_setCell cell_store size_ext_eq lt_p0 lt_p1 lt_p2 lt_p3 lt_p4 lt_p5 lt_p6 lt_p7 lt_p8 lt_p9 lt_p10 lt_p11 lt_p12 lt_p13 lt_p14 lt_p15 lt_p16 lt_p17 lt_p18 lt_p19 lt_p20 lt_p21 lt_p22 lt_p23 lt_p24 lt_p25 lt_p26 lt_p27 lt_p28 lt_p29 lt_p30 lt_p31 lt_p32 lt_q1 lt_q2 lt_q3 lt_q4 lt_q5 lt_q6 lt_q7 lt_q8 lt_q9 lt_q10 lt_q11 lt_q12 lt_q13 lt_q14 lt_q15 lt_q16 lt_q17 lt_q18 lt_q19 lt_q20 lt_q21 lt_q22 lt_q23 lt_q24 lt_q25 lt_q26 lt_q27 lt_q28 lt_q29 lt_q30 lt_q31 lt_q32 run_fop run_store_float
attribute [local go_sem high] cmp_eql cmp_neq cmp_lss cmp_leq cmp_gtr cmp_geq
attribute [local go_sem] x_bits

/-- the lists of a polygon, wherever they lie -/
def RingsAt (w : World) (g : Nat) (ls : List (List (Nat × Nat))) (S : Nat → Prop) : Prop := ∀ (i : Nat) (h : i < ls.length), ∃ gi ci, w.cell? ⟨g, i, none⟩ = some (.slice (some ⟨gi, 0, none⟩) (ls[i]'h).length ci) ∧ gi < w.heap.size ∧ S gi ∧ PtsAt w gi 0 (ls[i]'h)

set_option maxRecDepth 20000 in
set_option maxHeartbeats 8000000 in
theorem writePg_c (gE gb gB : Nat) (gD : Nat × Nat) (cap : Nat) (big : Bool) (bs : List Nat) (s : Nat) (hs : s ≤ 999999) (si : Int) (hsi : si = (s : Int)) (ls : List (List (Nat × Nat))) (h40 : ls.length ≤ 40) (hns : ∀ l ∈ ls, l.length ≤ 300) (hbs : ∀ l ∈ ls, Bits l) (g c : Nat) (w : World) (h : EncW w gE gb gB gD cap big bs) (hg : g < w.heap.size) (hgn : NotG [gb] gB gD g) (hpt : RingsAt w g ls (NotG [gb] gB gD))
    (hroom : (accB (bs ++ prefB 3 s ls.length big) (fun i => num32 (ls.getD i []).length big ++ ptsForm (ls.getD i []) big) ls.length).length ≤ cap) :
    Calls Tryz.prog 54 #[.pointer (some ⟨gE, 0, none⟩), .slice (some ⟨g, 0, none⟩) ls.length c, .int .i64 si] w
      (fun e w' => e = .returned .nilIface ∧ EncW w' gE gb gB gD cap big (accB (bs ++ prefB 3 s ls.length big) (fun i => num32 (ls.getD i []).length big ++ ptsForm (ls.getD i []) big) ls.length) ∧ Kb [gb] gB gD w w') := by
  have hlp := prefB_length 3 s ls.length big
  have hpn := prefN_le s
  obtain ⟨f, hf⟩ : ∃ f : Nat → List Nat, (fun i => num32 (ls.getD i []).length big ++ ptsForm (ls.getD i []) big) = f := ⟨_, rfl⟩
  rw [hf] at hroom ⊢
  have hmono : ∀ k, k ≤ ls.length → (accB (bs ++ prefB 3 s ls.length big) f k).length ≤ cap := fun k hk => Nat.le_trans (accB_mono _ _ hk) hroom
  have hm0 := hmono 0 (Nat.zero_le _)
  have ha0 : accB (bs ++ prefB 3 s ls.length big) f 0 = bs ++ prefB 3 s ls.length big := rfl
  rw [ha0, List.length_append] at hm0
  have HP := Lib.hid (prefix_c gE gb gB gD cap big bs 3 ls.length s 3 si rfl hsi (by decide) (by decide) (by omega) hs w h (by omega))
  have hsuc : ∀ k, accB (bs ++ prefB 3 s ls.length big) f (k + 1) = accB (bs ++ prefB 3 s ls.length big) f k ++ f k := fun k => rfl
  generalize prefB 3 s ls.length big = pf at *
  generalize accB (bs ++ pf) f = acs at *
  have Hf := Lib.hid hf
  have Hm := Lib.hid hmono
  have Hsuc := Lib.hid hsuc
  have Hz := Lib.hid ha0
  have Hbs := Lib.hid hbs
  have Hns := Lib.hid hns
  have Hpt := Lib.hid hpt
  have Hw := Lib.hid h
  clear hmono hroom hm0 hsuc ha0 hlp hbs hns hpt hsi h hf
  obtain ⟨N, hN⟩ : ∃ n, ls.length = n := ⟨_, rfl⟩
  rw [hN] at HP h40 ⊢
  have HN := Lib.hid hN
  clear hN
  go_enter Tryz.func54, Tryz.ntmps54
  go_wp2_with (go_at_call 76; (with_reducible refine (HP.out).mono ?_); rintro e w1 ⟨rfl, hp1, hk1⟩)
  rw [← Hz.out] at hp1
  have H1 := Lib.hid hp1
  have K1 := Lib.hid hk1
  clear hp1 hk1
  go_loopw [24] (fun s24 wr => ∃ k : Nat, k ≤ N ∧ s24 = .int .i64 k ∧ EncW wr gE gb gB gD cap big (acs k) ∧ Kb [gb] gB gD w wr) (fun s24 _ => N - (intOf s24).toNat)
  case atStart => exact ⟨0, Nat.zero_le _, rfl, H1.out, K1.out⟩
  case round =>
    obtain ⟨K, hKn, rfl, hencO, hkxO⟩ := hrel
    by_cases hltO : K < N
    · have hKp : K < ls.length := by have := HN.out; omega
      obtain ⟨gi, ci, hci, hgi0, hgni, hpti⟩ := Hpt.out K hKp
      have hcr := (hkxO.cellL hg hgn).trans hci
      have hgr0 := Nat.lt_of_lt_of_le hg hkxO.size
      have h300 := Hns.out _ (List.getElem_mem hKp)
      have hbl := Hbs.out _ (List.getElem_mem hKp)
      have hgd := getD_ls ls K hKp
      have hfk : f K = num32 (ls.getD K []).length big ++ ptsForm (ls.getD K []) big := by rw [← Hf.out]
      rw [hgd] at hfk
      obtain ⟨ps, hps⟩ : ∃ ps, ls[K]'hKp = ps := ⟨_, rfl⟩
      rw [hps] at hcr h300 hbl hfk hpti
      have hcap := Hm.out (K + 1) (by omega)
      rw [Hsuc.out, hfk, List.length_append, List.length_append, num32_length, ptsForm_length] at hcap
      have hse : acs (K + 1) = acs K ++ num32 ps.length big ++ ptsForm ps big := by rw [Hsuc.out, hfk, List.append_assoc]
      generalize acs K = aK at *
      have hlin := linB_all (aK ++ num32 ps.length big) ps big
      have hlen := fun k hk => linB_length (aK ++ num32 ps.length big) ps big k hk
      have hsuc := fun k hk => linB_succ (aK ++ num32 ps.length big) ps big k hk
      have hz := linB_zero (aK ++ num32 ps.length big) ps big
      have l4 := num32_length ps.length big
      simp only [List.length_append, num32_length] at hlen
      rw [← hse] at hlin
      generalize linB (aK ++ num32 ps.length big) ps big = lin at *
      have Hlin := Lib.hid hlin
      have Hlen := Lib.hid hlen
      have Hsuc2 := Lib.hid hsuc
      have Hz2 := Lib.hid hz
      have L4 := Lib.hid l4
      have Hb := Lib.hid hbl
      have Hpt2 := Lib.hid hpti
      have KO := Lib.hid hkxO
      have HO := Lib.hid hencO
      obtain ⟨n, hn⟩ : ∃ n, ps.length = n := ⟨_, rfl⟩
      rw [hn] at hcr h300 hcap L4 Hlin Hz2
      have Hn := Lib.hid hn
      have hK1 : (K : Int) < (N : Int) := by omega
      clear hlin hlen hsuc hz l4 hbl hpti hgd hps hfk hse hn hci
      obtain ⟨e0, e1, e2, ez, ltE, _, _, _, _, _, _, _, _, _⟩ := hencO
      clear ez hkxO
      go_wp2_with fail
      first | (with_reducible refine wp_region_ext_tail2 11 ?_ ?_ ?_) | refine wp_region_ext_tail 11 ?_ ?_ ?_
      kernel_rfl
      kernel_rfl
      simp only [List.take_succ_cons, List.take_zero, List.drop_succ_cons, List.drop_zero]
      repeat (go_big_quiet_step (fail))
      refine wpQuiet_nil ?_
      rintro _ ⟨u, rfl⟩
      go_wp2_with (go_at_call 74; (with_reducible refine (encPut32 (HO.out.kp (by repeat (first | (with_reducible exact Kp.refl _) | (with_reducible assumption) | (with_reducible apply Kp.ext) | (with_reducible apply Kp.alloc) | (with_reducible apply Kp.drew) | (with_reducible apply Kp.drewN) | (with_reducible refine Kp.setCell ?_ (by first | (dsimp only; omega) | (simp; omega) | (simp; done) | (simp [size_ext_eq]; omega)) _)))).nil n _ rfl (by omega) 0 16 16 rfl (by omega) (by omega)).mono ?_); rintro e w5 ⟨rfl, hp5, hk5⟩)
      have k5 : Kb [gb] gB gD wr w5 := (Kb.of_kp (show Kp wr _ from (by repeat (first | (with_reducible exact Kp.refl _) | (with_reducible assumption) | (with_reducible apply Kp.ext) | (with_reducible apply Kp.alloc) | (with_reducible apply Kp.drew) | (with_reducible apply Kp.drewN) | (with_reducible refine Kp.setCell ?_ (by first | (dsimp only; omega) | (simp; omega) | (simp; done) | (simp [size_ext_eq]; omega)) _))))).trans hk5.b1
      have H5 := Lib.hid hp5
      have K5 := Lib.hid k5
      clear hcr hgr0 e0 e1 e2 ltE hk5 k5
      obtain ⟨e0, e1, e2, ez, ltE, _, _, _, _, _, _, _, _, _⟩ := hp5.enc
      clear ez hp5
      go_region_held3 (fun w' => w'.cell? ⟨gE, 0, none⟩ = some (.slice (some ⟨gb, 0, none⟩) 16 16) ∧ w'.cell? ⟨gE, 1, none⟩ = some (.iface 41 (.pointer (some ⟨gB, 0, none⟩)))) (first | exact ⟨hp6.e0, hp6.e1⟩ | (simp [go_sem, *]; done))
        ((go_at_call 110; (with_reducible refine (encWrite (H5.out.kp (by repeat (first | (with_reducible exact Kp.refl _) | (with_reducible assumption) | (with_reducible apply Kp.ext) | (with_reducible apply Kp.alloc) | (with_reducible apply Kp.drew) | (with_reducible apply Kp.drewN) | (with_reducible refine Kp.setCell ?_ (by first | (dsimp only; omega) | (simp; omega) | (simp; done) | (simp [size_ext_eq]; omega)) _)))) 4 16 (by simp [L4.out]) (by omega) (by omega)).mono ?_); rintro e w6 ⟨rfl, hp6, hk6⟩))
      have k6 : Kb [gb] gB gD w w6 := KO.out.trans (K5.out.trans ((Kb.of_kp (show Kp w5 _ from (by repeat (first | (with_reducible exact Kp.refl _) | (with_reducible assumption) | (with_reducible apply Kp.ext) | (with_reducible apply Kp.alloc) | (with_reducible apply Kp.drew) | (with_reducible apply Kp.drewN) | (with_reducible refine Kp.setCell ?_ (by first | (dsimp only; omega) | (simp; omega) | (simp; done) | (simp [size_ext_eq]; omega)) _))))).trans hk6))
      rw [List.nil_append, ← Hz2.out] at hp6
      have H6 := Lib.hid hp6
      have K6 := Lib.hid k6
      clear hp6 hk6 k6 e0 e1 e2 ltE
      go_wp2_with fail
      go_loopw [60] (fun s60 wr => ∃ k : Nat, k ≤ n ∧ s60 = .int .i64 k ∧ EncW wr gE gb gB gD cap big (lin k) ∧ Kb [gb] gB gD w wr) (fun s60 _ => n - (intOf s60).toNat)
      case atStart => exact ⟨0, Nat.zero_le _, rfl, H6.out, K6.out⟩
      case round =>
        obtain ⟨k, hkn, rfl, henc, hkx⟩ := hrel
        by_cases hlt : k < n
        · have hkp : k < ps.length := by have := Hn.out; omega
          obtain ⟨e0', e1'⟩ := Hpt2.out k hkp
          have d0 := (hkx.cellL hgi0 hgni).trans e0'
          have d1 := (hkx.cellL hgi0 hgni).trans e1'
          have hgr := Nat.lt_of_lt_of_le hgi0 hkx.size
          obtain ⟨b0, b1⟩ := Hb.out k hkp
          have hst := Hsuc2.out k hkp
          have hle := Hlen.out k (by omega)
          obtain ⟨⟨px, py⟩, hq⟩ : ∃ q, ps[k]'hkp = q := ⟨_, rfl⟩
          rw [hq] at d0 d1 b0 b1 hst
          dsimp only at b0 b1 hst
          rw [Nat.zero_add] at d0 d1
          have hk1 : (k : Int) < (n : Int) := by omega
          have hlen2 : (lin k).length + 16 ≤ cap := by have := Hn.out; rw [hle]; omega
          generalize lin k = acc at *
          have Hst := Lib.hid hst
          have hpl := num64_length px big
          have hpl2 := num64_length py big
          have L2 := Lib.hid hpl
          have L3 := Lib.hid hpl2
          clear hq hst e0' e1' hle hpl hpl2
          have KX := Lib.hid hkx
          have hsw := hkx.size
          go_wp2_with fail
          have hk0 : Kp wr (wr.alloc (.cells #[.float .f64 px, .float .f64 py] 88)) := (by repeat (first | (with_reducible exact Kp.refl _) | (with_reducible assumption) | (with_reducible apply Kp.ext) | (with_reducible apply Kp.alloc) | (with_reducible apply Kp.drew) | (with_reducible apply Kp.drewN) | (with_reducible refine Kp.setCell ?_ (by first | (dsimp only; omega) | (simp; omega) | (simp; done) | (simp [size_ext_eq]; omega)) _)))
          have cx : (wr.alloc (.cells #[.float .f64 px, .float .f64 py] 88)).cell? ⟨wr.heap.size, 0, none⟩ = some (.float .f64 px) := by simp
          have cy : (wr.alloc (.cells #[.float .f64 px, .float .f64 py] 88)).cell? ⟨wr.heap.size, 1, none⟩ = some (.float .f64 py) := by simp
          have hlt0 : wr.heap.size < (wr.alloc (.cells #[.float .f64 px, .float .f64 py] 88)).heap.size := by simp
          have h0 := henc.kp hk0; have hnew := henc.new (Nat.le_refl _) hk0
          generalize wr.alloc (.cells #[.float .f64 px, .float .f64 py] 88) = W at *
          have H0 := Lib.hid h0
          have Cx := Lib.hid cx
          have Cy := Lib.hid cy
          have HK0 := Lib.hid hk0
          obtain ⟨e0, e1, e2, ez, ltE, _, _, _, _, _, _, _, _, _⟩ := h0
          clear ez henc cx cy hkx d0 d1 hk0
          have c0x := Cx.out
          first | (with_reducible refine wp_region_ext_tail2 11 ?_ ?_ ?_) | refine wp_region_ext_tail 11 ?_ ?_ ?_
          kernel_rfl
          kernel_rfl
          simp only [List.take_succ_cons, List.take_zero, List.drop_succ_cons, List.drop_zero]
          repeat (go_big_quiet_step (fail))
          refine wpQuiet_nil ?_
          rintro _ ⟨u, rfl⟩
          go_wp2_with (go_at_call 75; (with_reducible refine (encPut64 (H0.out.kp (by repeat (first | (with_reducible exact Kp.refl _) | (with_reducible assumption) | (with_reducible apply Kp.ext) | (with_reducible apply Kp.alloc) | (with_reducible apply Kp.drew) | (with_reducible apply Kp.drewN) | (with_reducible refine Kp.setCell ?_ (by first | (dsimp only; omega) | (simp; omega) | (simp; done) | (simp [size_ext_eq]; omega)) _)))).nil px b0 0 16 16 (by simp) (by omega) (by omega) (by omega)).mono ?_); rintro e w2 ⟨rfl, hp2, hk2⟩)
          have k2 : Kb [gb] gB gD W w2 := (Kb.of_kp (show Kp W _ from (by repeat (first | (with_reducible exact Kp.refl _) | (with_reducible assumption) | (with_reducible apply Kp.ext) | (with_reducible apply Kp.alloc) | (with_reducible apply Kp.drew) | (with_reducible apply Kp.drewN) | (with_reducible refine Kp.setCell ?_ (by first | (dsimp only; omega) | (simp; omega) | (simp; done) | (simp [size_ext_eq]; omega)) _))))).trans hk2.b1
          have H2 := Lib.hid hp2
          have K2 := Lib.hid k2
          have c2y := (k2.cell (o := 1) hlt0 hnew).trans Cy.out
          have t2 : wr.heap.size < w2.heap.size := Nat.lt_of_lt_of_le hlt0 k2.size
          clear c0x e0 e1 e2 ltE hk2 k2
          obtain ⟨e0, e1, e2, ez, ltE, _, _, _, _, _, _, _, _, _⟩ := hp2.enc
          clear ez hp2
          first | (with_reducible refine wp_region_ext_tail2 12 ?_ ?_ ?_) | refine wp_region_ext_tail 12 ?_ ?_ ?_
          kernel_rfl
          kernel_rfl
          simp only [List.take_succ_cons, List.take_zero, List.drop_succ_cons, List.drop_zero]
          repeat (go_big_quiet_step (fail))
          refine wpQuiet_nil ?_
          rintro _ ⟨u, rfl⟩
          go_wp2_with (go_at_call 75; (with_reducible refine (encPut64 (H2.out.kp (by repeat (first | (with_reducible exact Kp.refl _) | (with_reducible assumption) | (with_reducible apply Kp.ext) | (with_reducible apply Kp.alloc) | (with_reducible apply Kp.drew) | (with_reducible apply Kp.drewN) | (with_reducible refine Kp.setCell ?_ (by first | (dsimp only; omega) | (simp; omega) | (simp; done) | (simp [size_ext_eq]; omega)) _)))) py b1 8 8 8 (by simp [L2.out]) (by omega) (by omega) (by omega)).mono ?_); rintro e w3 ⟨rfl, hp3, hk3⟩)
          have k3 : Kb [gb] gB gD W w3 := K2.out.trans ((Kb.of_kp (show Kp w2 _ from (by repeat (first | (with_reducible exact Kp.refl _) | (with_reducible assumption) | (with_reducible apply Kp.ext) | (with_reducible apply Kp.alloc) | (with_reducible apply Kp.drew) | (with_reducible apply Kp.drewN) | (with_reducible refine Kp.setCell ?_ (by first | (dsimp only; omega) | (simp; omega) | (simp; done) | (simp [size_ext_eq]; omega)) _))))).trans hk3.b1)
          have H3 := Lib.hid hp3
          have K3 := Lib.hid k3
          clear c2y e0 e1 e2 ltE hk3 k3
          obtain ⟨e0, e1, e2, ez, ltE, _, _, _, _, _, _, _, _, _⟩ := hp3.enc
          clear ez hp3
          go_region_held3 (fun w' => w'.cell? ⟨gE, 0, none⟩ = some (.slice (some ⟨gb, 0, none⟩) 16 16) ∧ w'.cell? ⟨gE, 1, none⟩ = some (.iface 41 (.pointer (some ⟨gB, 0, none⟩)))) (first | exact ⟨hp4.e0, hp4.e1⟩ | (simp [go_sem, *]; done))
            ((go_at_call 110; (with_reducible refine (encWrite (H3.out.kp (by repeat (first | (with_reducible exact Kp.refl _) | (with_reducible assumption) | (with_reducible apply Kp.ext) | (with_reducible apply Kp.alloc) | (with_reducible apply Kp.drew) | (with_reducible apply Kp.drewN) | (with_reducible refine Kp.setCell ?_ (by first | (dsimp only; omega) | (simp; omega) | (simp; done) | (simp [size_ext_eq]; omega)) _)))) 16 16 (by simp [L2.out, L3.out]) (by omega) (by omega)).mono ?_); rintro e w4 ⟨rfl, hp4, hk4⟩))
          have k4 : Kb [gb] gB gD w w4 := KX.out.trans ((Kb.of_kp HK0.out).trans (K3.out.trans ((Kb.of_kp (show Kp w3 _ from (by repeat (first | (with_reducible exact Kp.refl _) | (with_reducible assumption) | (with_reducible apply Kp.ext) | (with_reducible apply Kp.alloc) | (with_reducible apply Kp.drew) | (with_reducible apply Kp.drewN) | (with_reducible refine Kp.setCell ?_ (by first | (dsimp only; omega) | (simp; omega) | (simp; done) | (simp [size_ext_eq]; omega)) _))))).trans hk4)))
          have e4 : acc ++ ([] ++ num64 px big ++ num64 py big) = lin (k + 1) := by rw [Hst.out, List.nil_append]
          rw [e4] at hp4
          have H4 := Lib.hid hp4
          have K4 := Lib.hid k4
          clear hp4 hk4 k4 e4 e0 e1 e2 ltE
          go_wp2_with fail
          go_roundw
          case rel => exact ⟨k + 1, by omega, by go_num, H4.out, K4.out⟩
          case measure => simp [intOf]; omega
        · obtain rfl : k = n := by omega
          have H4 := Lib.hid henc
          have K4 := Lib.hid hkx
          clear henc hkx
          go_wp2_with fail
          go_roundw
          case rel => exact ⟨K + 1, by omega, by go_num, by have h := H4.out; rw [Hlin.out] at h; exact h, K4.out⟩
          case measure => simp [intOf]; omega
    · obtain rfl : K = N := by omega
      have H4 := Lib.hid hencO
      have K4 := Lib.hid hkxO
      clear hencO hkxO
      go_wp2_with fail
      go_ret
      exact ⟨rfl, H4.out, K4.out⟩
end Go.Proofs.YtobdohhabgnjiaaGreatDoor
