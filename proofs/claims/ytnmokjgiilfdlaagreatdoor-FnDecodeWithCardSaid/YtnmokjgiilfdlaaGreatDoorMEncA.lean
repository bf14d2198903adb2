/-
  Worlds that keep all of another one but some blocks.
  Worlds that keep all but some blocks; bytes put into a row: ByteOrder.PutUint32, PutUint64.
  bytes.Buffer.Write where the room suffices.
  The encoder's state; writeTypePrefix.
  writeTypePrefix with a number of a reference system; writePoint.
  writeLineString.
  writePolygon.
-/
import Derived.Test.YtnmokjgiilfdlaaGreatDoorWm
import Derived.Laws.CopyOwn
import Derived.Test.YtnmokjgiilfdlaaGreatDoorMForm
import Derived.WalkSpells
import Derived.Lib.LazyBuf
import Derived.Test.YtnmokjgiilfdlaaGreatDoorWt
import Derived.Deep.RegionHeld3
import Derived.Deep.DrawnRows
set_option linter.all false
namespace Go.Proofs.YtnmokjgiilfdlaaGreatDoor
open PubFl Go.RowKit

attribute [local go_sem] cell_ext frozen_ext ext_setCell cell_store size_ext_eq lt_p0 lt_p1 lt_p2 lt_p3 lt_p4 lt_p5 lt_p6 lt_p7 lt_p8 lt_p9 lt_p10 lt_p11 lt_p12 lt_p13 lt_p14 lt_p15 lt_p16 lt_p17 lt_p18 lt_p19 lt_p20 lt_p21 lt_p22 lt_p23 lt_p24 lt_p25 lt_p26 lt_p27 lt_p28 lt_p29 lt_p30 lt_p31 lt_p32 lt_q1 lt_q2 lt_q3 lt_q4 lt_q5 lt_q6 lt_q7 lt_q8 lt_q9 lt_q10 lt_q11 lt_q12 lt_q13 lt_q14 lt_q15 lt_q16 lt_q17 lt_q18 lt_q19 lt_q20 lt_q21 lt_q22 lt_q23 lt_q24 lt_q25 lt_q26 lt_q27 lt_q28 lt_q29 lt_q30 lt_q31 lt_q32 run_fop run_store_float
attribute [local go_sem high] cmp_eql cmp_neq cmp_lss cmp_leq cmp_gtr cmp_geq

/-- a world that keeps all of another one but some blocks -/
structure Kx (S : List Nat) (w w' : World) : Prop where
  os : w'.os = w.os
  tape : w'.tape = w.tape
  output : w'.output = w.output
  size : w.heap.size ≤ w'.heap.size
  block : ∀ b, b < w.heap.size → b ∉ S → w'.heap[b]? = w.heap[b]?
theorem Kx.refl (S : List Nat) (w : World) : Kx S w w := ⟨rfl, rfl, rfl, Nat.le_refl _, fun _ _ _ => rfl⟩
theorem Kx.trans {S : List Nat} {a b c : World} (h : Kx S a b) (k : Kx S b c) : Kx S a c :=
  ⟨k.os.trans h.os, k.tape.trans h.tape, k.output.trans h.output, Nat.le_trans h.size k.size, fun i hi hn => (k.block i (Nat.lt_of_lt_of_le hi h.size) hn).trans (h.block i hi hn)⟩
theorem Kx.of_kp {S : List Nat} {w w' : World} (k : Kp w w') : Kx S w w' := ⟨k.os, k.tape, k.output, k.size, fun b hb _ => k.block b hb⟩
theorem Kx.mono {S S' : List Nat} {w w' : World} (h : Kx S w w') (hs : ∀ b ∈ S, b ∈ S') : Kx S' w w' := ⟨h.os, h.tape, h.output, h.size, fun b hb hn => h.block b hb fun c => hn (hs b c)⟩
theorem Kx.kp {S : List Nat} {w0 w w' : World} (h : Kx S w w') (k : Kp w0 w) (hs : ∀ b ∈ S, w0.heap.size ≤ b) : Kp w0 w' :=
  ⟨h.os.trans k.os, h.tape.trans k.tape, h.output.trans k.output, Nat.le_trans k.size h.size, fun b hb => (h.block b (Nat.lt_of_lt_of_le hb k.size) fun c => by have := hs b c; omega).trans (k.block b hb)⟩
theorem Kx.cell {S : List Nat} {w w' : World} (h : Kx S w w') {b o : Nat} (hb : b < w.heap.size) (hn : b ∉ S) : w'.cell? ⟨b, o, none⟩ = w.cell? ⟨b, o, none⟩ := World.cell?_of_block (h.block b hb hn)
theorem Kx.frozen {S : List Nat} {w w' : World} (h : Kx S w w') {b o : Nat} (hb : b < w.heap.size) (hn : b ∉ S) : w'.frozen? ⟨b, o, none⟩ = w.frozen? ⟨b, o, none⟩ := World.frozen?_of_block (h.block b hb hn)
theorem Kx.setCell {S : List Nat} {w w' : World} (h : Kx S w w') {g : Nat} (hg : g ∈ S) (o : Nat) (v : Value) : Kx S w (w'.setCell ⟨g, o, none⟩ v) :=
  ⟨h.os, h.tape, h.output, by simpa using h.size, fun b hb hn => (Below.heap_setCell _ _ _ _ (fun e => hn (by dsimp only at e; rw [e]; exact hg))).trans (h.block b hb hn)⟩
theorem Kx.setRow {S : List Nat} {w w' : World} (h : Kx S w w') {g : Nat} (hg : g ∈ S) (cs : Array Value) : Kx S w (w'.setRow g cs) :=
  ⟨h.os, h.tape, h.output, by simpa [World.setRow] using h.size, fun b hb hn => (setRow_other _ _ _ _ (fun e => hn (by rw [e]; exact hg))).trans (h.block b hb hn)⟩
theorem lt_heap' {w : World} {g : Nat} {x : Obj} (h : w.heap[g]? = some x) : g < w.heap.size := by
  rcases Nat.lt_or_ge g w.heap.size with c | c
  · exact c
  · rw [Array.getElem?_eq_none c] at h; cases h
end Go.Proofs.YtnmokjgiilfdlaaGreatDoor

set_option linter.all false
namespace Go.Proofs.YtnmokjgiilfdlaaGreatDoor
open PubFl Go.RowKit

attribute [local go_sem] cell_ext frozen_ext ext_setCell cell_store size_ext_eq lt_p0 lt_p1 lt_p2 lt_p3 lt_p4 lt_p5 lt_p6 lt_p7 lt_p8 lt_p9 lt_p10 lt_p11 lt_p12 lt_p13 lt_p14 lt_p15 lt_p16 lt_p17 lt_p18 lt_p19 lt_p20 lt_p21 lt_p22 lt_p23 lt_p24 lt_p25 lt_p26 lt_p27 lt_p28 lt_p29 lt_p30 lt_p31 lt_p32 lt_q1 lt_q2 lt_q3 lt_q4 lt_q5 lt_q6 lt_q7 lt_q8 lt_q9 lt_q10 lt_q11 lt_q12 lt_q13 lt_q14 lt_q15 lt_q16 lt_q17 lt_q18 lt_q19 lt_q20 lt_q21 lt_q22 lt_q23 lt_q24 lt_q25 lt_q26 lt_q27 lt_q28 lt_q29 lt_q30 lt_q31 lt_q32 run_fop run_store_float
attribute [local go_sem high] cmp_eql cmp_neq cmp_lss cmp_leq cmp_gtr cmp_geq

theorem Kx.agree {S : List Nat} {w w' : World} (h : Kx S w w') {lo hi : Nat} (hh : hi ≤ w.heap.size) (hs : ∀ b ∈ S, b < lo ∨ hi ≤ b) : Agree lo hi w w' := fun b h1 h2 => h.block b (by omega) fun c => by have := hs b c; omega
theorem BytesAt.kx {S : List Nat} {w w' : World} {b off : Nat} {bs : List Nat} (h : BytesAt w b off bs) (hb : b < w.heap.size) (k : Kx S w w') (hn : b ∉ S) : BytesAt w' b off bs := fun i hi => (k.cell hb hn).trans (h i hi)

/-- bytes put one behind the other -/
def putB : World → Nat → Nat → List Nat → World
  | w, _, _, [] => w
  | w, g, off, b :: bs => putB (w.setCell ⟨g, off, none⟩ (.int .u8 (b : Int))) g (off + 1) bs
theorem putB_append (g : Nat) : ∀ (as' bs : List Nat) (w : World) (off : Nat), putB w g off (as' ++ bs) = putB (putB w g off as') g (off + as'.length) bs
  | [], bs, w, off => rfl
  | a :: as', bs, w, off => by
    show putB _ g (off + 1) (as' ++ bs) = putB (putB _ g (off + 1) as') g (off + (as'.length + 1)) bs
    rw [putB_append g as' bs, show off + 1 + as'.length = off + (as'.length + 1) by omega]
theorem putB_kx {S : List Nat} {w0 : World} {g : Nat} (hg : g ∈ S) : ∀ (bs : List Nat) (w : World) (off : Nat), Kx S w0 w → Kx S w0 (putB w g off bs)
  | [], _, _, h => h
  | b :: bs, w, off, h => putB_kx hg bs _ (off + 1) (h.setCell hg off _)
theorem putB_frozen (g k : Nat) (j : Nat) : ∀ (bs : List Nat) (w : World) (off : Nat), (putB w g off bs).frozen? ⟨k, j, none⟩ = w.frozen? ⟨k, j, none⟩
  | [], _, _ => rfl
  | b :: bs, w, off => by
    show (putB _ g (off + 1) bs).frozen? _ = _
    rw [putB_frozen g k j bs]; simp
theorem putB_other (g : Nat) (p : Addr) : ∀ (bs : List Nat) (w : World) (off : Nat), (p.block = g → p.off < off ∨ off + bs.length ≤ p.off) → (putB w g off bs).cell? p = w.cell? p
  | [], _, _, _ => rfl
  | b :: bs, w, off, h => by
    show (putB _ g (off + 1) bs).cell? _ = _
    rw [putB_other g p bs _ _ (fun e => by have := h e; simp at this; omega)]
    refine World.cell?_setCell_other _ _ _ _ (fun e => ?_)
    subst e
    have := h rfl
    simp only [List.length_cons] at this
    omega
/-- a row of so many values of any kind -/
def Cells (w : World) (g n : Nat) : Prop := ∀ i, i < n → ∃ x, w.cell? ⟨g, i, none⟩ = some x
theorem Cells.put {g n : Nat} : ∀ (bs : List Nat) {w : World} (off : Nat), Cells w g n → Cells (putB w g off bs) g n
  | [], _, _, h => h
  | b :: bs, w, off, h => by
    refine Cells.put bs (off + 1) fun i hi => ?_
    obtain ⟨x, hx⟩ := h i hi
    by_cases c : i = off
    · subst c
      exact ⟨_, World.cell?_setCell_same _ _ _ hx⟩
    · exact ⟨x, (World.cell?_setCell_other _ _ _ _ (fun e => c (by injection e with _ e _; omega))).trans hx⟩
theorem putB_at {g n : Nat} : ∀ (bs : List Nat) {w : World} (off : Nat), Cells w g n → off + bs.length ≤ n → BytesAt (putB w g off bs) g off bs
  | [], _, _, _, _ => fun i hi => by simp at hi
  | b :: bs, w, off, h, hl => by
    have hc : Cells (w.setCell ⟨g, off, none⟩ (.int .u8 (b : Int))) g n := Cells.put [b] off h
    have ih := putB_at bs (off + 1) hc (by simp at hl; omega)
    intro i hi
    cases i with
    | zero =>
      show (putB (w.setCell ⟨g, off, none⟩ (.int .u8 (b : Int))) g (off + 1) bs).cell? ⟨g, off + 0, none⟩ = _
      rw [putB_other g _ bs _ _ (fun _ => .inl (by simp))]
      obtain ⟨x, hx⟩ := h off (by simp at hl; omega)
      exact World.cell?_setCell_same _ _ _ hx
    | succ i =>
      have := ih i (by simpa using hi)
      rw [show off + 1 + i = off + (i + 1) by omega] at this
      exact this
theorem BytesAt.append {w : World} {g off : Nat} {as' bs : List Nat} (h : BytesAt w g off as') (k : BytesAt w g (off + as'.length) bs) : BytesAt w g off (as' ++ bs) := fun i hi => by
  by_cases c : i < as'.length
  · rw [List.getElem_append_left c]; exact h i c
  · rw [List.getElem_append_right (by omega)]
    have := k (i - as'.length) (by rw [List.length_append] at hi; omega)
    rw [show off + as'.length + (i - as'.length) = off + i by omega] at this
    exact this
theorem BytesAt.take {w : World} {g off : Nat} {bs : List Nat} (h : BytesAt w g off bs) (n : Nat) : BytesAt w g off (bs.take n) := fun i hi => by
  rw [List.getElem_take]
  exact h i (by rw [List.length_take] at hi; omega)

def ordN (big : Bool) : Int := if big then 1 else 0
/-- what a call leaves that hands back nothing -/
def Ret0 (W : World) (e : Ending) (w' : World) : Prop := e = .returned (.tuple #[]) ∧ w' = W

set_option maxRecDepth 20000 in
set_option maxHeartbeats 1000000 in
theorem put32_c (v : Nat) (hv : v < 4294967296) (big : Bool) (g off n c : Nat) (hn : 4 ≤ n) (w : World) (hc : ∀ i, i < 4 → ∃ x, w.cell? ⟨g, off + i, none⟩ = some x) (hz : ∀ j, w.frozen? ⟨g, j, none⟩ = false) :
    Calls Tryz.prog 110 #[.int .u8 (ordN big), .slice (some ⟨g, off, none⟩) n c, .int .u32 (v : Int)] w (Ret0 (putB w g off (num32 v big))) := by
  obtain ⟨x0, h0⟩ := hc 0 (by omega)
  obtain ⟨x1, h1⟩ := hc 1 (by omega)
  obtain ⟨x2, h2⟩ := hc 2 (by omega)
  obtain ⟨x3, h3⟩ := hc 3 (by omega)
  rw [Nat.add_zero] at h0
  have z0 := hz off
  have z1 := hz (off + 1)
  have z2 := hz (off + 2)
  have z3 := hz (off + 3)
  have i0 : (0 : Int) < (n : Int) := by omega
  have i1 : (1 : Int) < (n : Int) := by omega
  have i2 : (2 : Int) < (n : Int) := by omega
  have i3 : (3 : Int) < (n : Int) := by omega
  clear hc hz
  cases big
  · show Calls Tryz.prog 110 #[.int .u8 0, .slice (some ⟨g, off, none⟩) n c, .int .u32 (v : Int)] w _
    go_enter Tryz.func110, Tryz.ntmps110
    go_wp2_with fail
    go_end0
    exact ⟨rfl, by simp [putB, num32]⟩
  · show Calls Tryz.prog 110 #[.int .u8 1, .slice (some ⟨g, off, none⟩) n c, .int .u32 (v : Int)] w _
    go_enter Tryz.func110, Tryz.ntmps110
    go_wp2_with fail
    go_end0
    exact ⟨rfl, by simp [putB, num32]⟩

theorem num64_f (v : Nat) : num64 v false = num32 (v % 4294967296) false ++ num32 (v / 4294967296) false := rfl
theorem num64_t (v : Nat) : num64 v true = num32 (v / 4294967296) true ++ num32 (v % 4294967296) true := rfl
set_option maxRecDepth 20000 in
set_option maxHeartbeats 1000000 in
theorem put64_c (v : Nat) (hv : v < 2 ^ 64) (big : Bool) (g off n c : Nat) (hn : 8 ≤ n) (hnc : n ≤ c) (w : World) (hc : ∀ i, i < 8 → ∃ x, w.cell? ⟨g, off + i, none⟩ = some x) (hz : ∀ j, w.frozen? ⟨g, j, none⟩ = false) :
    Calls Tryz.prog 111 #[.int .u8 (ordN big), .slice (some ⟨g, off, none⟩) n c, .int .u64 (v : Int)] w (Ret0 (putB w g off (num64 v big))) := by
  have hA : ∀ (x : Nat), x < 4294967296 → Calls Tryz.prog 110 #[.int .u8 (ordN big), .slice (some ⟨g, off, none⟩) n c, .int .u32 (x : Int)] w (Ret0 (putB w g off (num32 x big))) := fun x hx =>
    put32_c x hx big g off n c (by omega) w (fun i hi => hc i (by omega)) hz
  have hB : ∀ (x y : Nat), x < 4294967296 → Calls Tryz.prog 110 #[.int .u8 (ordN big), .slice (some ⟨g, off + 4, none⟩) (n - 4) (c - 4), .int .u32 (x : Int)] (putB w g off (num32 y big)) (Ret0 (putB (putB w g off (num32 y big)) g (off + 4) (num32 x big))) := fun x y hx =>
    put32_c x hx big g (off + 4) (n - 4) (c - 4) (by omega) _ (fun i hi => by
      obtain ⟨u, hu⟩ := hc (4 + i) (by omega)
      refine ⟨u, ?_⟩
      rw [putB_other g _ _ _ _ (fun _ => .inr (by rw [num32_length]; simp)), show off + 4 + i = off + (4 + i) by omega]
      exact hu) (fun j => by rw [putB_frozen]; exact hz j)
  have e1 : ((v : Int) % 4294967296) = ((v % 4294967296 : Nat) : Int) := by omega
  have e2 : ((v : Int) / 4294967296) = ((v / 4294967296 : Nat) : Int) := by omega
  obtain ⟨x7, h7⟩ := hc 7 (by omega)
  have i7 : (7 : Int) < (n : Int) := by omega
  have i4 : (4 : Int) ≤ (n : Int) := by omega
  have i5 : (n : Int) ≤ (c : Int) := by omega
  have i6 : (4 = c) = False := eq_false (by omega)
  have i8 : (c = 4) = False := eq_false (by omega)
  have HA1 := Lib.hid (hA (v % 4294967296) (by omega))
  have HA2 := Lib.hid (hA (v / 4294967296) (by omega))
  have HB1 := Lib.hid (hB (v / 4294967296) (v % 4294967296) (by omega))
  have HB2 := Lib.hid (hB (v % 4294967296) (v / 4294967296) (by omega))
  rw [← e1] at HA1 HB2
  rw [← e2] at HA2 HB1
  clear hA hB hc hz e1 e2
  cases big
  · rw [num64_f, putB_append, num32_length]
    generalize putB w g off (num32 (v % 4294967296) false) = W1 at *
    generalize putB W1 g (off + 4) (num32 (v / 4294967296) false) = W2 at *
    change Hid (Calls Tryz.prog _ #[.int .u8 0, _, _] _ _) at HA1
    change Hid (Calls Tryz.prog _ #[.int .u8 0, _, _] _ _) at HB1
    show Calls Tryz.prog 111 #[.int .u8 0, .slice (some ⟨g, off, none⟩) n c, .int .u64 (v : Int)] w _
    clear HA2 HB2
    go_enter Tryz.func111, Tryz.ntmps111
    go_wp2_with (first | (go_at_call 110; (with_reducible refine (HA1.out).mono ?_); rintro e w1 ⟨rfl, rfl⟩) | (go_at_call 110; (with_reducible refine (HB1.out).mono ?_); rintro e w1 ⟨rfl, rfl⟩))
    go_end0
    exact ⟨rfl, rfl⟩
  · rw [num64_t, putB_append, num32_length]
    generalize putB w g off (num32 (v / 4294967296) true) = W1 at *
    generalize putB W1 g (off + 4) (num32 (v % 4294967296) true) = W2 at *
    change Hid (Calls Tryz.prog _ #[.int .u8 1, _, _] _ _) at HA2
    change Hid (Calls Tryz.prog _ #[.int .u8 1, _, _] _ _) at HB2
    show Calls Tryz.prog 111 #[.int .u8 1, .slice (some ⟨g, off, none⟩) n c, .int .u64 (v : Int)] w _
    clear HA1 HB1
    go_enter Tryz.func111, Tryz.ntmps111
    go_wp2_with (first | (go_at_call 110; (with_reducible refine (HA2.out).mono ?_); rintro e w1 ⟨rfl, rfl⟩) | (go_at_call 110; (with_reducible refine (HB2.out).mono ?_); rintro e w1 ⟨rfl, rfl⟩))
    go_end0
    exact ⟨rfl, rfl⟩
end Go.Proofs.YtnmokjgiilfdlaaGreatDoor

set_option linter.all false
namespace Go.Proofs.YtnmokjgiilfdlaaGreatDoor
open PubFl Go.RowKit

attribute [local go_sem] cell_ext frozen_ext ext_setCell cell_store size_ext_eq lt_p0 lt_p1 lt_p2 lt_p3 lt_p4 lt_p5 lt_p6 lt_p7 lt_p8 lt_p9 lt_p10 lt_p11 lt_p12 lt_p13 lt_p14 lt_p15 lt_p16 lt_p17 lt_p18 lt_p19 lt_p20 lt_p21 lt_p22 lt_p23 lt_p24 lt_p25 lt_p26 lt_p27 lt_p28 lt_p29 lt_p30 lt_p31 lt_p32 lt_q1 lt_q2 lt_q3 lt_q4 lt_q5 lt_q6 lt_q7 lt_q8 lt_q9 lt_q10 lt_q11 lt_q12 lt_q13 lt_q14 lt_q15 lt_q16 lt_q17 lt_q18 lt_q19 lt_q20 lt_q21 lt_q22 lt_q23 lt_q24 lt_q25 lt_q26 lt_q27 lt_q28 lt_q29 lt_q30 lt_q31 lt_q32 run_fop run_store_float
attribute [local go_sem high] cmp_eql cmp_neq cmp_lss cmp_leq cmp_gtr cmp_geq

/-- a buffer in block gB that holds bytes, in the row gD -/
structure BufW (w : World) (gB gD cap : Nat) (bs : List Nat) : Prop where
  b0 : w.cell? ⟨gB, 0, none⟩ = some (.slice (some ⟨gD, 0, none⟩) bs.length cap)
  b1 : w.cell? ⟨gB, 1, none⟩ = some (.int .i64 0)
  b2 : ∃ r : Int, w.cell? ⟨gB, 2, none⟩ = some (.int .i8 r)
  bz : ∀ j, w.frozen? ⟨gB, j, none⟩ = false
  row : ∃ cur : Array Value, w.heap[gD]? = some (.cells cur 5 (0, 0)) ∧ cur.size = cap ∧ cur.toList.take bs.length = bc bs
  ne : gB ≠ gD
  lt : gB < w.heap.size
  room : bs.length ≤ cap
  small : cap ≤ 1000000000000
theorem BufW.kx {S : List Nat} {w w' : World} {gB gD cap : Nat} {bs : List Nat} (h : BufW w gB gD cap bs) (k : Kx S w w') (n1 : gB ∉ S) (n2 : gD ∉ S) : BufW w' gB gD cap bs := by
  obtain ⟨cur, hr, hs⟩ := h.row
  exact ⟨(k.cell h.lt n1).trans h.b0, (k.cell h.lt n1).trans h.b1, by obtain ⟨r, hr⟩ := h.b2; exact ⟨r, (k.cell h.lt n1).trans hr⟩, fun j => (k.frozen h.lt n1).trans (h.bz j), ⟨cur, (k.block gD (lt_heap' hr) n2).trans hr, hs⟩, h.ne, Nat.lt_of_lt_of_le h.lt k.size, h.room, h.small⟩
set_option maxRecDepth 20000 in
set_option maxHeartbeats 1000000 in
theorem tryGrow_c (gB gD cap l n : Nat) (w : World) (hlt : gB < w.heap.size) (h0 : w.cell? ⟨gB, 0, none⟩ = some (.slice (some ⟨gD, 0, none⟩) l cap)) (hz : ∀ j, w.frozen? ⟨gB, j, none⟩ = false) (hroom : l + n ≤ cap) (hsm : cap ≤ 1000000000000) :
    Calls Tryz.prog 139 #[.pointer (some ⟨gB, 0, none⟩), .int .i64 (n : Int)] w (fun e w' => e = .returned (.tuple #[.int .i64 (l : Int), .bool true]) ∧ w' = w.setCell ⟨gB, 0, none⟩ (.slice (some ⟨gD, 0, none⟩) (l + n) cap)) := by
  have z0 := hz 0
  have e1 : (n : Int) ≤ (cap : Int) - (l : Int) := by omega
  have e2 : (l : Int) + (n : Int) ≤ (cap : Int) := by omega
  clear hz
  go_enter Tryz.func139, Tryz.ntmps139
  go_wp2_with fail
  go_ret2
  exact ⟨rfl, rfl⟩

/-- what Write leaves -/
def WroteB (gB gD cap : Nat) (bs qs : List Nat) (w : World) (e : Ending) (w' : World) : Prop := e = .returned (.tuple #[.int .i64 (qs.length : Int), .nilIface]) ∧ BufW w' gB gD cap (bs ++ qs) ∧ Kx [gB, gD] w w'
theorem take_bc {bs qs : List Nat} {cur : List Value} (h : cur.take bs.length = bc bs) (hl : bs.length + qs.length ≤ cur.length) : (cur.take bs.length ++ (bc qs ++ cur.drop (bs.length + qs.length))).take (bs.length + qs.length) = bc (bs ++ qs) := by
  have e : (bc bs ++ bc qs).length = bs.length + qs.length := by rw [List.length_append, bc_length, bc_length]
  rw [h, bc_append, ← List.append_assoc, List.take_append_of_le_length (by rw [e]; exact Nat.le_refl _), List.take_of_length_le (by rw [e]; exact Nat.le_refl _)]
set_option maxRecDepth 20000 in
set_option maxHeartbeats 1000000 in
theorem write_c (gB gD cap : Nat) (bs qs : List Nat) (g off c : Nat) (w : World) (h : BufW w gB gD cap bs) (hroom : bs.length + qs.length ≤ cap) (hq : 0 < qs.length) (ha : BytesAt w g off qs) (hg : g < w.heap.size) (n1 : g ≠ gB) (n2 : g ≠ gD) :
    Calls Tryz.prog 137 #[.pointer (some ⟨gB, 0, none⟩), .slice (some ⟨g, off, none⟩) qs.length c] w (WroteB gB gD cap bs qs w) := by
  have H0 := Lib.hid h
  obtain ⟨b0, b1, ⟨r, b2⟩, bz, ⟨cur, hr, hcs, htk⟩, hne, hlt, hrm, hsm⟩ := h
  have z2 := bz 2
  have z0 := bz 0
  have hgD := lt_heap' hr
  have HG := Lib.hid (tryGrow_c gB gD cap bs.length qs.length (w.setCell ⟨gB, 2, none⟩ (.int .i8 0)) (by simpa using hlt) (by rw [World.cell?_setCell_other _ _ _ _ (by simp)]; exact b0) (fun j => by simpa using bz j) hroom hsm)
  have Hr := Lib.hid (show ((w.setCell ⟨gB, 2, none⟩ (.int .i8 0)).setCell ⟨gB, 0, none⟩ (.slice (some ⟨gD, 0, none⟩) (bs.length + qs.length) cap)).heap[gD]? = some (.cells cur 5 (0, 0)) by
    rw [Below.heap_setCell _ _ _ _ (by dsimp only; omega), Below.heap_setCell _ _ _ _ (by dsimp only; omega)]; exact hr)
  have Ha := Lib.hid (show ∀ j u, (bc qs)[j]? = some u → ((w.setCell ⟨gB, 2, none⟩ (.int .i8 0)).setCell ⟨gB, 0, none⟩ (.slice (some ⟨gD, 0, none⟩) (bs.length + qs.length) cap)).cell? ((⟨g, off, none⟩ : Addr).add j) = some u from BytesAt.cells (fun i hi => by
    rw [World.cell?_setCell_other _ _ _ _ (fun e => n1 (by injection e with e; exact e.symm)), World.cell?_setCell_other _ _ _ _ (fun e => n1 (by injection e with e; exact e.symm))]; exact ha i hi))
  have hszU : (Tryz.prog.info? 5).map (·.size) = some 1 := by
    obtain ⟨i0, hi, _, hz1, _⟩ := info_parts infoU8
    rw [hi, Option.map_some, hz1]
  have HszU := Lib.hid hszU
  have hlq : (bc qs).length = Nat.min qs.length (bs.length + qs.length - bs.length) := by rw [bc_length, Nat.add_sub_cancel_left]; exact (Nat.min_self _).symm
  have Hlq := Lib.hid hlq
  have Hone := Lib.hid (bc_one qs)
  have Hfit : Hid (bs.length + (bc qs).length ≤ cur.size) := Lib.hid (by rw [bc_length, hcs]; exact hroom)
  have Htk := Lib.hid (take_bc (qs := qs) htk (show bs.length + qs.length ≤ cur.size by omega))
  have HB : Hid (∀ j, w.frozen? ⟨gB, j, none⟩ = false) := Lib.hid bz
  have Hcs := Lib.hid hcs
  have Hb1 := Lib.hid b1
  have e1 : (bs.length = cap) = False := eq_false (by omega)
  have e2 : (cap = bs.length) = False := eq_false (by omega)
  have e3 : (bs.length : Int) ≤ (bs.length : Int) + (qs.length : Int) := by omega
  clear hr ha htk hszU hlq bz hcs b1
  go_enter Tryz.func137, Tryz.ntmps137
  go_wp2_with (first | (go_at_call 139; (with_reducible refine (HG.out).mono ?_); rintro e w1 ⟨rfl, rfl⟩) | (refine wpList_copy_own rfl (.tmp 29) (.tmp 30) 30 30 rfl 5 Tryz.underlying30 HszU.out gD bs.length _ _ ⟨g, off, none⟩ qs.length c rfl rfl cur 5 Hr.out (bc qs) ?hn Ha.out Hfit.out Hone.out ?_))
  case hn => rw [bc_length]; exact (Nat.min_self _).symm
  rw [bc_length]
  go_wp2_with fail
  go_ret2
  refine ⟨rfl, ?_, ((((Kx.refl [gB, gD] w).setCell (by simp) 2 _).setCell (by simp) 0 _).setRow (by simp) _)⟩
  obtain ⟨c0, c1, ⟨r', c2⟩, cz, _, _, _, _, _⟩ := H0.out
  have ho : ∀ o, (((w.setCell ⟨gB, 2, none⟩ (.int .i8 0)).setCell ⟨gB, 0, none⟩ (.slice (some ⟨gD, 0, none⟩) (bs.length + qs.length) cap)).setRow gD (cur.toList.take bs.length ++ (bc qs ++ cur.toList.drop (bs.length + qs.length))).toArray).cell? ⟨gB, o, none⟩ = ((w.setCell ⟨gB, 2, none⟩ (.int .i8 0)).setCell ⟨gB, 0, none⟩ (.slice (some ⟨gD, 0, none⟩) (bs.length + qs.length) cap)).cell? ⟨gB, o, none⟩ := fun o => World.cell?_of_block (setRow_other _ _ _ _ hne)
  have hf : ∀ o, (((w.setCell ⟨gB, 2, none⟩ (.int .i8 0)).setCell ⟨gB, 0, none⟩ (.slice (some ⟨gD, 0, none⟩) (bs.length + qs.length) cap)).setRow gD (cur.toList.take bs.length ++ (bc qs ++ cur.toList.drop (bs.length + qs.length))).toArray).frozen? ⟨gB, o, none⟩ = w.frozen? ⟨gB, o, none⟩ := fun o => (World.frozen?_of_block (setRow_other _ _ _ _ hne)).trans (by simp)
  refine ⟨?_, ?_, ⟨0, ?_⟩, fun j => (hf j).trans (cz j), ⟨_, setRow_heap _ _ _ _ _ _ Hr.out, ?_, ?_⟩, hne, by simpa [World.setRow] using hlt, by rw [List.length_append]; exact hroom, hsm⟩
  · rw [ho, List.length_append]
    exact World.cell?_setCell_same _ _ _ ((World.cell?_setCell_other _ _ _ _ (by simp)).trans c0)
  · rw [ho, World.cell?_setCell_other _ _ _ _ (by simp), World.cell?_setCell_other _ _ _ _ (by simp)]; exact c1
  · rw [ho, World.cell?_setCell_other _ _ _ _ (by simp)]
    exact World.cell?_setCell_same _ _ _ c2
  · have hl : cur.toList.length = cap := by rw [Array.length_toList]; exact Hcs.out
    have hq2 : (bc qs).length = qs.length := bc_length qs
    simp only [List.size_toArray, List.length_append, List.length_take, List.length_drop, hl, hq2]
    omega
  · rw [List.length_append]
    exact Htk.out
end Go.Proofs.YtnmokjgiilfdlaaGreatDoor

set_option linter.all false
namespace Go.Proofs.YtnmokjgiilfdlaaGreatDoor
open PubFl Go.RowKit

attribute [local go_sem] cell_ext frozen_ext ext_setCell cell_store size_ext_eq lt_p0 lt_p1 lt_p2 lt_p3 lt_p4 lt_p5 lt_p6 lt_p7 lt_p8 lt_p9 lt_p10 lt_p11 lt_p12 lt_p13 lt_p14 lt_p15 lt_p16 lt_p17 lt_p18 lt_p19 lt_p20 lt_p21 lt_p22 lt_p23 lt_p24 lt_p25 lt_p26 lt_p27 lt_p28 lt_p29 lt_p30 lt_p31 lt_p32 lt_q1 lt_q2 lt_q3 lt_q4 lt_q5 lt_q6 lt_q7 lt_q8 lt_q9 lt_q10 lt_q11 lt_q12 lt_q13 lt_q14 lt_q15 lt_q16 lt_q17 lt_q18 lt_q19 lt_q20 lt_q21 lt_q22 lt_q23 lt_q24 lt_q25 lt_q26 lt_q27 lt_q28 lt_q29 lt_q30 lt_q31 lt_q32 run_fop run_store_float
attribute [local go_sem high] cmp_eql cmp_neq cmp_lss cmp_leq cmp_gtr cmp_geq

/-- an encoder in block gE, its 16 bytes in gb, its buffer in gB, the buffer's row in gD -/
structure EncW (w : World) (gE gb gB gD cap : Nat) (big : Bool) (bs : List Nat) : Prop where
  e0 : w.cell? ⟨gE, 0, none⟩ = some (.slice (some ⟨gb, 0, none⟩) 16 16)
  e1 : w.cell? ⟨gE, 1, none⟩ = some (.iface 80 (.pointer (some ⟨gB, 0, none⟩)))
  e2 : w.cell? ⟨gE, 2, none⟩ = some (.int .u8 (ordN big))
  ez : ∀ j, w.frozen? ⟨gE, j, none⟩ = false
  ltE : gE < w.heap.size
  cells : Cells w gb 16
  bz : ∀ j, w.frozen? ⟨gb, j, none⟩ = false
  ltb : gb < w.heap.size
  buf : BufW w gB gD cap bs
  n1 : gE ≠ gb
  n2 : gE ≠ gB
  n3 : gE ≠ gD
  n4 : gb ≠ gB
  n5 : gb ≠ gD
theorem EncW.kx {S : List Nat} {w w' : World} {gE gb gB gD cap : Nat} {big : Bool} {bs : List Nat} (h : EncW w gE gb gB gD cap big bs) (k : Kx S w w') (m1 : gE ∉ S) (m2 : gb ∉ S) (m3 : gB ∉ S) (m4 : gD ∉ S) : EncW w' gE gb gB gD cap big bs :=
  ⟨(k.cell h.ltE m1).trans h.e0, (k.cell h.ltE m1).trans h.e1, (k.cell h.ltE m1).trans h.e2, fun j => (k.frozen h.ltE m1).trans (h.ez j), Nat.lt_of_lt_of_le h.ltE k.size, fun i hi => by
    obtain ⟨x, hx⟩ := h.cells i hi
    exact ⟨x, (k.cell h.ltb m2).trans hx⟩, fun j => (k.frozen h.ltb m2).trans (h.bz j), Nat.lt_of_lt_of_le h.ltb k.size, h.buf.kx k m3 m4, h.n1, h.n2, h.n3, h.n4, h.n5⟩
theorem EncW.kp {w w' : World} {gE gb gB gD cap : Nat} {big : Bool} {bs : List Nat} (h : EncW w gE gb gB gD cap big bs) (k : Kp w w') : EncW w' gE gb gB gD cap big bs := h.kx (S := []) (Kx.of_kp k) (by simp) (by simp) (by simp) (by simp)
theorem EncW.lts {w : World} {gE gb gB gD cap : Nat} {big : Bool} {bs : List Nat} (h : EncW w gE gb gB gD cap big bs) : gE < w.heap.size ∧ gb < w.heap.size ∧ gB < w.heap.size ∧ gD < w.heap.size := by
  obtain ⟨cur, hr, _⟩ := h.buf.row
  exact ⟨h.ltE, h.ltb, h.buf.lt, lt_heap' hr⟩
theorem EncW.new {w : World} {gE gb gB gD cap : Nat} {big : Bool} {bs : List Nat} (h : EncW w gE gb gB gD cap big bs) {n : Nat} (hn : w.heap.size ≤ n) : n ∉ [gb, gB, gD] := by
  obtain ⟨_, h2, h3, h4⟩ := h.lts
  simp
  omega
/-- .. and what lies at the head of its 16 bytes -/
structure EncP (w : World) (gE gb gB gD cap : Nat) (big : Bool) (bs pre : List Nat) : Prop where
  enc : EncW w gE gb gB gD cap big bs
  at0 : BytesAt w gb 0 pre
theorem EncP.kp {w w' : World} {gE gb gB gD cap : Nat} {big : Bool} {bs pre : List Nat} (h : EncP w gE gb gB gD cap big bs pre) (k : Kp w w') : EncP w' gE gb gB gD cap big bs pre := ⟨h.enc.kp k, h.at0.kp h.enc.ltb k⟩
theorem EncW.nil {w : World} {gE gb gB gD cap : Nat} {big : Bool} {bs : List Nat} (h : EncW w gE gb gB gD cap big bs) : EncP w gE gb gB gD cap big bs [] := ⟨h, fun i hi => by simp at hi⟩
/-- bytes put behind those -/
theorem EncP.put {w : World} {gE gb gB gD cap : Nat} {big : Bool} {bs pre : List Nat} (h : EncP w gE gb gB gD cap big bs pre) (n : Nat) (hn : n = pre.length) (qs : List Nat) (hq : n + qs.length ≤ 16) : EncP (putB w gb n qs) gE gb gB gD cap big bs (pre ++ qs) ∧ Kx [gb] w (putB w gb n qs) := by
  subst hn
  have k := putB_kx (S := [gb]) (w0 := w) (g := gb) (by simp) qs w pre.length (Kx.refl _ _)
  obtain ⟨⟨e0, e1, e2, ez, ltE, cells, bz, ltb, buf, n1, n2, n3, n4, n5⟩, at0⟩ := h
  refine ⟨⟨⟨(k.cell ltE (by simpa using n1)).trans e0, (k.cell ltE (by simpa using n1)).trans e1, (k.cell ltE (by simpa using n1)).trans e2, fun j => (k.frozen ltE (by simpa using n1)).trans (ez j), Nat.lt_of_lt_of_le ltE k.size, cells.put qs _, fun j => (putB_frozen _ _ _ _ _ _).trans (bz j), Nat.lt_of_lt_of_le ltb k.size, buf.kx k (by simpa using fun e => n4 e.symm) (by simpa using fun e => n5 e.symm), n1, n2, n3, n4, n5⟩, ?_⟩, k⟩
  refine BytesAt.append (fun i hi => ?_) ?_
  · rw [putB_other gb _ qs w _ (fun _ => .inl (by dsimp only; omega))]
    exact at0 i hi
  · rw [Nat.zero_add]
    exact putB_at qs _ cells hq
/-- the head of the 16 bytes written -/
theorem EncP.wrote {w w' : World} {gE gb gB gD cap : Nat} {big : Bool} {bs pre qs : List Nat} (h : EncP w gE gb gB gD cap big bs pre) (hw : BufW w' gB gD cap (bs ++ qs)) (k : Kx [gB, gD] w w') : EncW w' gE gb gB gD cap big (bs ++ qs) := by
  obtain ⟨⟨e0, e1, e2, ez, ltE, cells, bz, ltb, buf, n1, n2, n3, n4, n5⟩, at0⟩ := h
  have m1 : gE ∉ [gB, gD] := by simp [n2, n3]
  have m2 : gb ∉ [gB, gD] := by simp [n4, n5]
  exact ⟨(k.cell ltE m1).trans e0, (k.cell ltE m1).trans e1, (k.cell ltE m1).trans e2, fun j => (k.frozen ltE m1).trans (ez j), Nat.lt_of_lt_of_le ltE k.size, fun i hi => by
    obtain ⟨x, hx⟩ := cells i hi
    exact ⟨x, (k.cell ltb m2).trans hx⟩, fun j => (k.frozen ltb m2).trans (bz j), Nat.lt_of_lt_of_le ltb k.size, hw, n1, n2, n3, n4, n5⟩
/-- what a writer leaves -/
def RetE (gE gb gB gD cap : Nat) (big : Bool) (bs qs : List Nat) (w : World) (e : Ending) (w' : World) : Prop := e = .returned .nilIface ∧ EncW w' gE gb gB gD cap big (bs ++ qs) ∧ Kx [gb, gB, gD] w w'

@[go_sem] theorem methW (x : Value) (w : World) : Sem.run Tryz.prog (method 344 80 x "Write") w = .ok (137, x) w := by kernel_rfl
/-- what a call leaves that puts bytes into the 16 -/
def RetP (gE gb gB gD cap : Nat) (big : Bool) (bs pre : List Nat) (w : World) (e : Ending) (w' : World) : Prop := e = .returned (.tuple #[]) ∧ EncP w' gE gb gB gD cap big bs pre ∧ Kx [gb] w w'
theorem encPut32 {w : World} {gE gb gB gD cap : Nat} {big : Bool} {bs pre : List Nat} (h : EncP w gE gb gB gD cap big bs pre) (v : Nat) (vi : Int) (hvi : vi = (v : Int)) (hv : v < 4294967296) (off n c : Nat) (ho : off = pre.length) (hn : 4 ≤ n) (hl : off + 4 ≤ 16) :
    Calls Tryz.prog 110 #[.int .u8 (ordN big), .slice (some ⟨gb, off, none⟩) n c, .int .u32 vi] w (RetP gE gb gB gD cap big bs (pre ++ num32 v big) w) := by
  subst hvi
  refine (put32_c v hv big gb off n c hn w (fun i hi => h.enc.cells (off + i) (by omega)) h.enc.bz).mono ?_
  rintro e w' ⟨rfl, rfl⟩
  obtain ⟨h1, h2⟩ := h.put off ho (num32 v big) (by rw [num32_length]; omega)
  exact ⟨rfl, h1, h2⟩
theorem encPut64 {w : World} {gE gb gB gD cap : Nat} {big : Bool} {bs pre : List Nat} (h : EncP w gE gb gB gD cap big bs pre) (v : Nat) (hv : v < 2 ^ 64) (off n c : Nat) (ho : off = pre.length) (hn : 8 ≤ n) (hnc : n ≤ c) (hl : off + 8 ≤ 16) :
    Calls Tryz.prog 111 #[.int .u8 (ordN big), .slice (some ⟨gb, off, none⟩) n c, .int .u64 (v : Int)] w (RetP gE gb gB gD cap big bs (pre ++ num64 v big) w) := by
  refine (put64_c v hv big gb off n c hn hnc w (fun i hi => h.enc.cells (off + i) (by omega)) h.enc.bz).mono ?_
  rintro e w' ⟨rfl, rfl⟩
  obtain ⟨h1, h2⟩ := h.put off ho (num64 v big) (by rw [num64_length]; omega)
  exact ⟨rfl, h1, h2⟩
/-- what writing the head of the 16 bytes leaves -/
def RetW (gE gb gB gD cap : Nat) (big : Bool) (bs qs : List Nat) (n : Nat) (w : World) (e : Ending) (w' : World) : Prop := e = .returned (.tuple #[.int .i64 (n : Int), .nilIface]) ∧ EncW w' gE gb gB gD cap big (bs ++ qs) ∧ Kx [gb, gB, gD] w w'
theorem encWrite {w : World} {gE gb gB gD cap : Nat} {big : Bool} {bs qs : List Nat} (h : EncP w gE gb gB gD cap big bs qs) (n c : Nat) (hn : n = qs.length) (h0 : 0 < n) (hroom : bs.length + n ≤ cap) :
    Calls Tryz.prog 137 #[.pointer (some ⟨gB, 0, none⟩), .slice (some ⟨gb, 0, none⟩) n c] w (RetW gE gb gB gD cap big bs qs n w) := by
  subst hn
  refine (write_c gB gD cap bs qs gb 0 c w h.enc.buf hroom h0 h.at0 h.enc.ltb h.enc.n4 h.enc.n5).mono ?_
  rintro e w' ⟨rfl, hb, hk⟩
  exact ⟨rfl, h.wrote hb hk, hk.mono (by simp)⟩
theorem Kx.b1 {gb gB gD : Nat} {w w' : World} (k : Kx [gb] w w') : Kx [gb, gB, gD] w w' := k.mono (by simp)

set_option maxRecDepth 20000 in
set_option maxHeartbeats 1000000 in
theorem prefix0_c (gE gb gB gD cap : Nat) (big : Bool) (bs : List Nat) (t l : Nat) (ht : t < 8) (hl : l < 4294967296) (w : World) (h : EncW w gE gb gB gD cap big bs) (hroom : bs.length + 8 ≤ cap) :
    Calls Tryz.prog 112 #[.pointer (some ⟨gE, 0, none⟩), .int .u32 (t : Int), .int .i64 (l : Int), .int .i64 0] w (RetE gE gb gB gD cap big bs (num32 t big ++ num32 l big) w) := by
  have H := Lib.hid h
  have l1 := num32_length t big
  have l2 := num32_length l big
  obtain ⟨e0, e1, e2, ez, ltE, _, _, _, _, _, _, _, _, _⟩ := h
  have L1 := Lib.hid l1
  have L2 := Lib.hid l2
  clear ez l1 l2
  go_enter Tryz.func112, Tryz.ntmps112
  go_wp2_with fail
  first | (with_reducible refine wp_region_ext_tail2 9 ?_ ?_ ?_) | refine wp_region_ext_tail 9 ?_ ?_ ?_
  kernel_rfl
  kernel_rfl
  simp only [List.take_succ_cons, List.take_zero, List.drop_succ_cons, List.drop_zero]
  repeat (go_big_quiet_step (fail))
  refine wpQuiet_nil ?_
  rintro _ ⟨u, rfl⟩
  go_wp2_with (go_at_call 110; (with_reducible refine (encPut32 (H.out.kp (by repeat (first | (with_reducible exact Kp.refl _) | (with_reducible assumption) | (with_reducible apply Kp.ext) | (with_reducible apply Kp.alloc) | (with_reducible apply Kp.drew) | (with_reducible apply Kp.drewN) | (with_reducible refine Kp.setCell ?_ (by first | (dsimp only; omega) | (simp; omega) | (simp; done) | (simp [size_ext_eq]; omega)) _)))).nil t _ rfl (by omega) 0 16 16 rfl (by omega) (by omega)).mono ?_); rintro e w1 ⟨rfl, hp1, hk1⟩)
  have k1 : Kx [gb, gB, gD] w w1 := (Kx.of_kp (show Kp w (ext w u) from (by repeat (first | (with_reducible exact Kp.refl _) | (with_reducible assumption) | (with_reducible apply Kp.ext) | (with_reducible apply Kp.alloc) | (with_reducible apply Kp.drew) | (with_reducible apply Kp.drewN) | (with_reducible refine Kp.setCell ?_ (by first | (dsimp only; omega) | (simp; omega) | (simp; done) | (simp [size_ext_eq]; omega)) _))))).trans hk1.b1
  have H1 := Lib.hid hp1
  have K1 := Lib.hid k1
  clear e0 e1 e2 ltE hk1 k1
  obtain ⟨e0, e1, e2, ez, ltE, _, _, _, _, _, _, _, _, _⟩ := hp1.enc
  clear ez hp1
  first | (with_reducible refine wp_region_ext_tail2 11 ?_ ?_ ?_) | refine wp_region_ext_tail 11 ?_ ?_ ?_
  kernel_rfl
  kernel_rfl
  simp only [List.take_succ_cons, List.take_zero, List.drop_succ_cons, List.drop_zero]
  repeat (go_big_quiet_step (fail))
  refine wpQuiet_nil ?_
  rintro _ ⟨u, rfl⟩
  go_wp2_with (go_at_call 110; (with_reducible refine (encPut32 (H1.out.kp (by repeat (first | (with_reducible exact Kp.refl _) | (with_reducible assumption) | (with_reducible apply Kp.ext) | (with_reducible apply Kp.alloc) | (with_reducible apply Kp.drew) | (with_reducible apply Kp.drewN) | (with_reducible refine Kp.setCell ?_ (by first | (dsimp only; omega) | (simp; omega) | (simp; done) | (simp [size_ext_eq]; omega)) _)))) l _ rfl (by omega) 4 12 12 (by simp [L1.out]) (by omega) (by omega)).mono ?_); rintro e w2 ⟨rfl, hp2, hk2⟩)
  have k2 : Kx [gb, gB, gD] w w2 := K1.out.trans ((Kx.of_kp (show Kp w1 _ from (by repeat (first | (with_reducible exact Kp.refl _) | (with_reducible assumption) | (with_reducible apply Kp.ext) | (with_reducible apply Kp.alloc) | (with_reducible apply Kp.drew) | (with_reducible apply Kp.drewN) | (with_reducible refine Kp.setCell ?_ (by first | (dsimp only; omega) | (simp; omega) | (simp; done) | (simp [size_ext_eq]; omega)) _))))).trans hk2.b1)
  have H2 := Lib.hid hp2
  have K2 := Lib.hid k2
  clear e0 e1 e2 ltE hk2 k2
  obtain ⟨e0, e1, e2, ez, ltE, _, _, _, _, _, _, _, _, _⟩ := hp2.enc
  clear ez hp2
  go_region_held3 (fun w' => w'.cell? ⟨gE, 0, none⟩ = some (.slice (some ⟨gb, 0, none⟩) 16 16) ∧ w'.cell? ⟨gE, 1, none⟩ = some (.iface 80 (.pointer (some ⟨gB, 0, none⟩)))) (first | exact ⟨hp3.e0, hp3.e1⟩ | (simp [go_sem, *]; done))
    ((go_at_call 137; (with_reducible refine (encWrite (H2.out.kp (by repeat (first | (with_reducible exact Kp.refl _) | (with_reducible assumption) | (with_reducible apply Kp.ext) | (with_reducible apply Kp.alloc) | (with_reducible apply Kp.drew) | (with_reducible apply Kp.drewN) | (with_reducible refine Kp.setCell ?_ (by first | (dsimp only; omega) | (simp; omega) | (simp; done) | (simp [size_ext_eq]; omega)) _)))) 8 16 (by simp [L1.out, L2.out]) (by omega) hroom).mono ?_); rintro e w3 ⟨rfl, hp3, hk3⟩))
  go_wp2_with fail
  go_ret
  refine ⟨rfl, by simpa using hp3, K2.out.trans ((Kx.of_kp (show Kp w2 _ from (by repeat (first | (with_reducible exact Kp.refl _) | (with_reducible assumption) | (with_reducible apply Kp.ext) | (with_reducible apply Kp.alloc) | (with_reducible apply Kp.drew) | (with_reducible apply Kp.drewN) | (with_reducible refine Kp.setCell ?_ (by first | (dsimp only; omega) | (simp; omega) | (simp; done) | (simp [size_ext_eq]; omega)) _))))).trans hk3)⟩
end Go.Proofs.YtnmokjgiilfdlaaGreatDoor

set_option linter.all false
namespace Go.Proofs.YtnmokjgiilfdlaaGreatDoor
open PubFl Go.RowKit

attribute [local go_sem] cell_ext frozen_ext ext_setCell cell_store size_ext_eq lt_p0 lt_p1 lt_p2 lt_p3 lt_p4 lt_p5 lt_p6 lt_p7 lt_p8 lt_p9 lt_p10 lt_p11 lt_p12 lt_p13 lt_p14 lt_p15 lt_p16 lt_p17 lt_p18 lt_p19 lt_p20 lt_p21 lt_p22 lt_p23 lt_p24 lt_p25 lt_p26 lt_p27 lt_p28 lt_p29 lt_p30 lt_p31 lt_p32 lt_q1 lt_q2 lt_q3 lt_q4 lt_q5 lt_q6 lt_q7 lt_q8 lt_q9 lt_q10 lt_q11 lt_q12 lt_q13 lt_q14 lt_q15 lt_q16 lt_q17 lt_q18 lt_q19 lt_q20 lt_q21 lt_q22 lt_q23 lt_q24 lt_q25 lt_q26 lt_q27 lt_q28 lt_q29 lt_q30 lt_q31 lt_q32 run_fop run_store_float
attribute [local go_sem high] cmp_eql cmp_neq cmp_lss cmp_leq cmp_gtr cmp_geq
attribute [local go_sem] x_bits

set_option maxRecDepth 20000 in
set_option maxHeartbeats 1000000 in
theorem prefixS_c (gE gb gB gD cap : Nat) (big : Bool) (bs : List Nat) (t l s : Nat) (h1t : 1 ≤ t) (ht : t ≤ 7) (hl : l < 4294967296) (hs0 : 0 < s) (hs : s ≤ 999999) (w : World) (h : EncW w gE gb gB gD cap big bs) (hroom : bs.length + 12 ≤ cap) :
    Calls Tryz.prog 112 #[.pointer (some ⟨gE, 0, none⟩), .int .u32 (t : Int), .int .i64 (l : Int), .int .i64 (s : Int)] w (RetE gE gb gB gD cap big bs (num32 (t + 536870912) big ++ num32 s big ++ num32 l big) w) := by
  have H := Lib.hid h
  have l1 := num32_length (t + 536870912) big
  have l2 := num32_length s big
  have l3 := num32_length l big
  have e3 := or_kind t h1t ht
  have e4 : ((s : Int) == 0) = false := beq_eq_false_iff_ne.2 (by omega)
  have e5 : (s = 0) = False := eq_false (by omega)
  obtain ⟨e0, e1, e2, ez, ltE, _, _, _, _, _, _, _, _, _⟩ := h
  have L1 := Lib.hid l1
  have L2 := Lib.hid l2
  have L3 := Lib.hid l3
  clear ez l1 l2 l3
  go_enter Tryz.func112, Tryz.ntmps112
  go_wp2_with fail
  first | (with_reducible refine wp_region_ext_tail2 10 ?_ ?_ ?_) | refine wp_region_ext_tail 10 ?_ ?_ ?_
  kernel_rfl
  kernel_rfl
  simp only [List.take_succ_cons, List.take_zero, List.drop_succ_cons, List.drop_zero]
  repeat (go_big_quiet_step (fail))
  refine wpQuiet_nil ?_
  rintro _ ⟨u, rfl⟩
  go_wp2_with (go_at_call 110; (with_reducible refine (encPut32 (H.out.kp (by repeat (first | (with_reducible exact Kp.refl _) | (with_reducible assumption) | (with_reducible apply Kp.ext) | (with_reducible apply Kp.alloc) | (with_reducible apply Kp.drew) | (with_reducible apply Kp.drewN) | (with_reducible refine Kp.setCell ?_ (by first | (dsimp only; omega) | (simp; omega) | (simp; done) | (simp [size_ext_eq]; omega)) _)))).nil (t + 536870912) ((t : Int) + 536870912) (by omega) (by omega) 0 16 16 rfl (by omega) (by omega)).mono ?_); rintro e w1 ⟨rfl, hp1, hk1⟩)
  have k1 : Kx [gb, gB, gD] w w1 := (Kx.of_kp (show Kp w (ext w u) from (by repeat (first | (with_reducible exact Kp.refl _) | (with_reducible assumption) | (with_reducible apply Kp.ext) | (with_reducible apply Kp.alloc) | (with_reducible apply Kp.drew) | (with_reducible apply Kp.drewN) | (with_reducible refine Kp.setCell ?_ (by first | (dsimp only; omega) | (simp; omega) | (simp; done) | (simp [size_ext_eq]; omega)) _))))).trans hk1.b1
  have H1 := Lib.hid hp1
  have K1 := Lib.hid k1
  clear e0 e1 e2 e3 ltE hk1 k1
  obtain ⟨e0, e1, e2, ez, ltE, _, _, _, _, _, _, _, _, _⟩ := hp1.enc
  clear ez hp1
  first | (with_reducible refine wp_region_ext_tail2 11 ?_ ?_ ?_) | refine wp_region_ext_tail 11 ?_ ?_ ?_
  kernel_rfl
  kernel_rfl
  simp only [List.take_succ_cons, List.take_zero, List.drop_succ_cons, List.drop_zero]
  repeat (go_big_quiet_step (fail))
  refine wpQuiet_nil ?_
  rintro _ ⟨u, rfl⟩
  go_wp2_with (go_at_call 110; (with_reducible refine (encPut32 (H1.out.kp (by repeat (first | (with_reducible exact Kp.refl _) | (with_reducible assumption) | (with_reducible apply Kp.ext) | (with_reducible apply Kp.alloc) | (with_reducible apply Kp.drew) | (with_reducible apply Kp.drewN) | (with_reducible refine Kp.setCell ?_ (by first | (dsimp only; omega) | (simp; omega) | (simp; done) | (simp [size_ext_eq]; omega)) _)))) s _ rfl (by omega) 4 12 12 (by simp [L1.out]) (by omega) (by omega)).mono ?_); rintro e w2 ⟨rfl, hp2, hk2⟩)
  have k2 : Kx [gb, gB, gD] w w2 := K1.out.trans ((Kx.of_kp (show Kp w1 _ from (by repeat (first | (with_reducible exact Kp.refl _) | (with_reducible assumption) | (with_reducible apply Kp.ext) | (with_reducible apply Kp.alloc) | (with_reducible apply Kp.drew) | (with_reducible apply Kp.drewN) | (with_reducible refine Kp.setCell ?_ (by first | (dsimp only; omega) | (simp; omega) | (simp; done) | (simp [size_ext_eq]; omega)) _))))).trans hk2.b1)
  have H2 := Lib.hid hp2
  have K2 := Lib.hid k2
  clear e0 e1 e2 ltE hk2 k2
  obtain ⟨e0, e1, e2, ez, ltE, _, _, _, _, _, _, _, _, _⟩ := hp2.enc
  clear ez hp2
  first | (with_reducible refine wp_region_ext_tail2 11 ?_ ?_ ?_) | refine wp_region_ext_tail 11 ?_ ?_ ?_
  kernel_rfl
  kernel_rfl
  simp only [List.take_succ_cons, List.take_zero, List.drop_succ_cons, List.drop_zero]
  repeat (go_big_quiet_step (fail))
  refine wpQuiet_nil ?_
  rintro _ ⟨u, rfl⟩
  go_wp2_with (go_at_call 110; (with_reducible refine (encPut32 (H2.out.kp (by repeat (first | (with_reducible exact Kp.refl _) | (with_reducible assumption) | (with_reducible apply Kp.ext) | (with_reducible apply Kp.alloc) | (with_reducible apply Kp.drew) | (with_reducible apply Kp.drewN) | (with_reducible refine Kp.setCell ?_ (by first | (dsimp only; omega) | (simp; omega) | (simp; done) | (simp [size_ext_eq]; omega)) _)))) l _ rfl (by omega) 8 8 8 (by simp [L1.out, L2.out]) (by omega) (by omega)).mono ?_); rintro e w3 ⟨rfl, hp3, hk3⟩)
  have k3 : Kx [gb, gB, gD] w w3 := K2.out.trans ((Kx.of_kp (show Kp w2 _ from (by repeat (first | (with_reducible exact Kp.refl _) | (with_reducible assumption) | (with_reducible apply Kp.ext) | (with_reducible apply Kp.alloc) | (with_reducible apply Kp.drew) | (with_reducible apply Kp.drewN) | (with_reducible refine Kp.setCell ?_ (by first | (dsimp only; omega) | (simp; omega) | (simp; done) | (simp [size_ext_eq]; omega)) _))))).trans hk3.b1)
  have H3 := Lib.hid hp3
  have K3 := Lib.hid k3
  clear e0 e1 e2 ltE hk3 k3
  obtain ⟨e0, e1, e2, ez, ltE, _, _, _, _, _, _, _, _, _⟩ := hp3.enc
  clear ez hp3
  go_region_held3 (fun w' => w'.cell? ⟨gE, 0, none⟩ = some (.slice (some ⟨gb, 0, none⟩) 16 16) ∧ w'.cell? ⟨gE, 1, none⟩ = some (.iface 80 (.pointer (some ⟨gB, 0, none⟩)))) (first | exact ⟨hp4.e0, hp4.e1⟩ | (simp [go_sem, *]; done))
    ((go_at_call 137; (with_reducible refine (encWrite (H3.out.kp (by repeat (first | (with_reducible exact Kp.refl _) | (with_reducible assumption) | (with_reducible apply Kp.ext) | (with_reducible apply Kp.alloc) | (with_reducible apply Kp.drew) | (with_reducible apply Kp.drewN) | (with_reducible refine Kp.setCell ?_ (by first | (dsimp only; omega) | (simp; omega) | (simp; done) | (simp [size_ext_eq]; omega)) _)))) 12 16 (by simp [L1.out, L2.out, L3.out]) (by omega) hroom).mono ?_); rintro e w4 ⟨rfl, hp4, hk4⟩))
  go_wp2_with fail
  go_ret
  refine ⟨rfl, by simpa using hp4, K3.out.trans ((Kx.of_kp (show Kp w3 _ from (by repeat (first | (with_reducible exact Kp.refl _) | (with_reducible assumption) | (with_reducible apply Kp.ext) | (with_reducible apply Kp.alloc) | (with_reducible apply Kp.drew) | (with_reducible apply Kp.drewN) | (with_reducible refine Kp.setCell ?_ (by first | (dsimp only; omega) | (simp; omega) | (simp; done) | (simp [size_ext_eq]; omega)) _))))).trans hk4)⟩


set_option maxRecDepth 20000 in
set_option maxHeartbeats 2000000 in
theorem writePoint0_c (gE gb gB gD cap : Nat) (big : Bool) (bs : List Nat) (x y : Nat) (hx : x < 2 ^ 64) (hy : y < 2 ^ 64) (w : World) (h : EncW w gE gb gB gD cap big bs) (hroom : bs.length + 20 ≤ cap) :
    Calls Tryz.prog 85 #[.pointer (some ⟨gE, 0, none⟩), .agg #[.float .f64 x, .float .f64 y], .int .i64 0] w (RetE gE gb gB gD cap big bs (num32 1 big ++ ptsForm [(x, y)] big) w) := by
  have l1 := num32_length 1 big
  have l2 := num64_length x big
  have l3 := num64_length y big
  have epf : ptsForm [(x, y)] big = num64 x big ++ num64 y big := by unfold ptsForm; simp
  rw [epf]
  have L1 := Lib.hid l1
  have L2 := Lib.hid l2
  have L3 := Lib.hid l3
  clear l1 l2 l3 epf
  go_enter Tryz.func85, Tryz.ntmps85
  go_wp2_with fail
  have hk0 : Kp w (w.alloc (.cells #[.float .f64 x, .float .f64 y] 98)) := (by repeat (first | (with_reducible exact Kp.refl _) | (with_reducible assumption) | (with_reducible apply Kp.ext) | (with_reducible apply Kp.alloc) | (with_reducible apply Kp.drew) | (with_reducible apply Kp.drewN) | (with_reducible refine Kp.setCell ?_ (by first | (dsimp only; omega) | (simp; omega) | (simp; done) | (simp [size_ext_eq]; omega)) _)))
  have cx : (w.alloc (.cells #[.float .f64 x, .float .f64 y] 98)).cell? ⟨w.heap.size, 0, none⟩ = some (.float .f64 x) := by simp
  have cy : (w.alloc (.cells #[.float .f64 x, .float .f64 y] 98)).cell? ⟨w.heap.size, 1, none⟩ = some (.float .f64 y) := by simp
  have hlt : w.heap.size < (w.alloc (.cells #[.float .f64 x, .float .f64 y] 98)).heap.size := by simp
  have hnew := h.new (Nat.le_refl _)
  have h0 := h.kp hk0
  generalize w.alloc (.cells #[.float .f64 x, .float .f64 y] 98) = W at *
  have H0 := Lib.hid h0
  have Cx := Lib.hid cx
  have Cy := Lib.hid cy
  obtain ⟨e0, e1, e2, ez, ltE, _, _, _, _, _, _, _, _, _⟩ := h0
  clear ez h cx cy
  first | (with_reducible refine wp_region_ext_tail2 8 ?_ ?_ ?_) | refine wp_region_ext_tail 8 ?_ ?_ ?_
  kernel_rfl
  kernel_rfl
  simp only [List.take_succ_cons, List.take_zero, List.drop_succ_cons, List.drop_zero]
  repeat (go_big_quiet_step (fail))
  refine wpQuiet_nil ?_
  rintro _ ⟨u, rfl⟩
  go_wp2_with (go_at_call 110; (with_reducible refine (encPut32 ((H0.out.kp (by repeat (first | (with_reducible exact Kp.refl _) | (with_reducible assumption) | (with_reducible apply Kp.ext) | (with_reducible apply Kp.alloc) | (with_reducible apply Kp.drew) | (with_reducible apply Kp.drewN) | (with_reducible refine Kp.setCell ?_ (by first | (dsimp only; omega) | (simp; omega) | (simp; done) | (simp [size_ext_eq]; omega)) _)))).nil) (1) (1) (by omega) (by omega) 0 16 16 (by simp) (by omega) (by omega)).mono ?_); rintro e w1 ⟨rfl, hp1, hk1⟩)
  have k1 : Kx [gb, gB, gD] W w1 := (Kx.refl _ W).trans ((Kx.of_kp (show Kp W _ from (by repeat (first | (with_reducible exact Kp.refl _) | (with_reducible assumption) | (with_reducible apply Kp.ext) | (with_reducible apply Kp.alloc) | (with_reducible apply Kp.drew) | (with_reducible apply Kp.drewN) | (with_reducible refine Kp.setCell ?_ (by first | (dsimp only; omega) | (simp; omega) | (simp; done) | (simp [size_ext_eq]; omega)) _))))).trans hk1.b1)
  have H1 := Lib.hid hp1
  have K1 := Lib.hid k1
  have c1x := (k1.cell (o := 0) hlt hnew).trans Cx.out
  have c1y := (k1.cell (o := 1) hlt hnew).trans Cy.out
  have s1 := k1.size
  have t1 : w.heap.size < w1.heap.size := Nat.lt_of_lt_of_le hlt s1
  clear  e0 e1 e2 ltE hk1 k1
  obtain ⟨e0, e1, e2, ez, ltE, _, _, _, _, _, _, _, _, _⟩ := hp1.enc
  clear ez hp1
  go_region_held3 (fun w' => w'.cell? ⟨gE, 0, none⟩ = some (.slice (some ⟨gb, 0, none⟩) 16 16) ∧ w'.cell? ⟨gE, 1, none⟩ = some (.iface 80 (.pointer (some ⟨gB, 0, none⟩)))) (first | exact ⟨hp2.e0, hp2.e1⟩ | (simp [go_sem, *]; done))
    ((go_at_call 137; (with_reducible refine (encWrite (H1.out.kp (by repeat (first | (with_reducible exact Kp.refl _) | (with_reducible assumption) | (with_reducible apply Kp.ext) | (with_reducible apply Kp.alloc) | (with_reducible apply Kp.drew) | (with_reducible apply Kp.drewN) | (with_reducible refine Kp.setCell ?_ (by first | (dsimp only; omega) | (simp; omega) | (simp; done) | (simp [size_ext_eq]; omega)) _)))) 4 16 (by simp [L1.out]) (by omega) (by omega)).mono ?_); rintro e w2 ⟨rfl, hp2, hk2⟩))
  go_wp2_with fail
  have k2 : Kx [gb, gB, gD] W w2 := K1.out.trans ((Kx.of_kp (show Kp w1 _ from (by repeat (first | (with_reducible exact Kp.refl _) | (with_reducible assumption) | (with_reducible apply Kp.ext) | (with_reducible apply Kp.alloc) | (with_reducible apply Kp.drew) | (with_reducible apply Kp.drewN) | (with_reducible refine Kp.setCell ?_ (by first | (dsimp only; omega) | (simp; omega) | (simp; done) | (simp [size_ext_eq]; omega)) _))))).trans hk2)
  have H2 := Lib.hid hp2
  have K2 := Lib.hid k2
  have c2x := (k2.cell (o := 0) hlt hnew).trans Cx.out
  have c2y := (k2.cell (o := 1) hlt hnew).trans Cy.out
  have s2 := k2.size
  have t2 : w.heap.size < w2.heap.size := Nat.lt_of_lt_of_le hlt s2
  clear c1x c1y e0 e1 e2 ltE hk2 k2
  obtain ⟨e0, e1, e2, ez, ltE, _, _, _, _, _, _, _, _, _⟩ := hp2
  clear ez
  first | (with_reducible refine wp_region_ext_tail2 11 ?_ ?_ ?_) | refine wp_region_ext_tail 11 ?_ ?_ ?_
  kernel_rfl
  kernel_rfl
  simp only [List.take_succ_cons, List.take_zero, List.drop_succ_cons, List.drop_zero]
  repeat (go_big_quiet_step (fail))
  refine wpQuiet_nil ?_
  rintro _ ⟨u, rfl⟩
  go_wp2_with (go_at_call 111; (with_reducible refine (encPut64 ((H2.out.kp (by repeat (first | (with_reducible exact Kp.refl _) | (with_reducible assumption) | (with_reducible apply Kp.ext) | (with_reducible apply Kp.alloc) | (with_reducible apply Kp.drew) | (with_reducible apply Kp.drewN) | (with_reducible refine Kp.setCell ?_ (by first | (dsimp only; omega) | (simp; omega) | (simp; done) | (simp [size_ext_eq]; omega)) _)))).nil) x hx 0 16 16 (by simp) (by omega) (by omega) (by omega)).mono ?_); rintro e w3 ⟨rfl, hp3, hk3⟩)
  have k3 : Kx [gb, gB, gD] W w3 := K2.out.trans ((Kx.of_kp (show Kp w2 _ from (by repeat (first | (with_reducible exact Kp.refl _) | (with_reducible assumption) | (with_reducible apply Kp.ext) | (with_reducible apply Kp.alloc) | (with_reducible apply Kp.drew) | (with_reducible apply Kp.drewN) | (with_reducible refine Kp.setCell ?_ (by first | (dsimp only; omega) | (simp; omega) | (simp; done) | (simp [size_ext_eq]; omega)) _))))).trans hk3.b1)
  have H3 := Lib.hid hp3
  have K3 := Lib.hid k3
  have c3x := (k3.cell (o := 0) hlt hnew).trans Cx.out
  have c3y := (k3.cell (o := 1) hlt hnew).trans Cy.out
  have s3 := k3.size
  have t3 : w.heap.size < w3.heap.size := Nat.lt_of_lt_of_le hlt s3
  clear c2x c2y e0 e1 e2 ltE hk3 k3
  obtain ⟨e0, e1, e2, ez, ltE, _, _, _, _, _, _, _, _, _⟩ := hp3.enc
  clear ez hp3
  first | (with_reducible refine wp_region_ext_tail2 12 ?_ ?_ ?_) | refine wp_region_ext_tail 12 ?_ ?_ ?_
  kernel_rfl
  kernel_rfl
  simp only [List.take_succ_cons, List.take_zero, List.drop_succ_cons, List.drop_zero]
  repeat (go_big_quiet_step (fail))
  refine wpQuiet_nil ?_
  rintro _ ⟨u, rfl⟩
  go_wp2_with (go_at_call 111; (with_reducible refine (encPut64 (H3.out.kp (by repeat (first | (with_reducible exact Kp.refl _) | (with_reducible assumption) | (with_reducible apply Kp.ext) | (with_reducible apply Kp.alloc) | (with_reducible apply Kp.drew) | (with_reducible apply Kp.drewN) | (with_reducible refine Kp.setCell ?_ (by first | (dsimp only; omega) | (simp; omega) | (simp; done) | (simp [size_ext_eq]; omega)) _)))) y hy 8 8 8 (by simp [L2.out]) (by omega) (by omega) (by omega)).mono ?_); rintro e w4 ⟨rfl, hp4, hk4⟩)
  have k4 : Kx [gb, gB, gD] W w4 := K3.out.trans ((Kx.of_kp (show Kp w3 _ from (by repeat (first | (with_reducible exact Kp.refl _) | (with_reducible assumption) | (with_reducible apply Kp.ext) | (with_reducible apply Kp.alloc) | (with_reducible apply Kp.drew) | (with_reducible apply Kp.drewN) | (with_reducible refine Kp.setCell ?_ (by first | (dsimp only; omega) | (simp; omega) | (simp; done) | (simp [size_ext_eq]; omega)) _))))).trans hk4.b1)
  have H4 := Lib.hid hp4
  have K4 := Lib.hid k4
  have c4x := (k4.cell (o := 0) hlt hnew).trans Cx.out
  have c4y := (k4.cell (o := 1) hlt hnew).trans Cy.out
  have s4 := k4.size
  have t4 : w.heap.size < w4.heap.size := Nat.lt_of_lt_of_le hlt s4
  clear c3x c3y e0 e1 e2 ltE hk4 k4
  obtain ⟨e0, e1, e2, ez, ltE, _, _, _, _, _, _, _, _, _⟩ := hp4.enc
  clear ez hp4
  go_region_held3 (fun w' => w'.cell? ⟨gE, 0, none⟩ = some (.slice (some ⟨gb, 0, none⟩) 16 16) ∧ w'.cell? ⟨gE, 1, none⟩ = some (.iface 80 (.pointer (some ⟨gB, 0, none⟩)))) (first | exact ⟨hp5.e0, hp5.e1⟩ | (simp [go_sem, *]; done))
    ((go_at_call 137; (with_reducible refine (encWrite (H4.out.kp (by repeat (first | (with_reducible exact Kp.refl _) | (with_reducible assumption) | (with_reducible apply Kp.ext) | (with_reducible apply Kp.alloc) | (with_reducible apply Kp.drew) | (with_reducible apply Kp.drewN) | (with_reducible refine Kp.setCell ?_ (by first | (dsimp only; omega) | (simp; omega) | (simp; done) | (simp [size_ext_eq]; omega)) _)))) 16 16 (by simp [L2.out, L3.out]) (by omega) (by simp [L1.out]; omega)).mono ?_); rintro e w5 ⟨rfl, hp5, hk5⟩))
  go_wp2_with fail
  go_ret
  refine ⟨rfl, by simpa using hp5, (Kx.of_kp hk0).trans (K4.out.trans ((Kx.of_kp (show Kp w4 _ from (by repeat (first | (with_reducible exact Kp.refl _) | (with_reducible assumption) | (with_reducible apply Kp.ext) | (with_reducible apply Kp.alloc) | (with_reducible apply Kp.drew) | (with_reducible apply Kp.drewN) | (with_reducible refine Kp.setCell ?_ (by first | (dsimp only; omega) | (simp; omega) | (simp; done) | (simp [size_ext_eq]; omega)) _))))).trans hk5))⟩

set_option maxRecDepth 20000 in
set_option maxHeartbeats 2000000 in
theorem writePointS_c (gE gb gB gD cap : Nat) (big : Bool) (bs : List Nat) (x y : Nat) (hx : x < 2 ^ 64) (hy : y < 2 ^ 64) (s : Nat) (hs0 : 0 < s) (hs : s ≤ 999999) (w : World) (h : EncW w gE gb gB gD cap big bs) (hroom : bs.length + 24 ≤ cap) :
    Calls Tryz.prog 85 #[.pointer (some ⟨gE, 0, none⟩), .agg #[.float .f64 x, .float .f64 y], .int .i64 (s : Int)] w (RetE gE gb gB gD cap big bs (num32 536870913 big ++ num32 s big ++ ptsForm [(x, y)] big) w) := by
  have l1 := num32_length 536870913 big
  have l4 := num32_length s big
  have L4 := Lib.hid l4
  clear l4
  have l2 := num64_length x big
  have l3 := num64_length y big
  have epf : ptsForm [(x, y)] big = num64 x big ++ num64 y big := by unfold ptsForm; simp
  rw [epf]
  have L1 := Lib.hid l1
  have L2 := Lib.hid l2
  have L3 := Lib.hid l3
  clear l1 l2 l3 epf
  have x4 : ((s : Int) == 0) = false := beq_eq_false_iff_ne.2 (by omega)
  have x5 : (s = 0) = False := eq_false (by omega)
  go_enter Tryz.func85, Tryz.ntmps85
  go_wp2_with fail
  have hk0 : Kp w (w.alloc (.cells #[.float .f64 x, .float .f64 y] 98)) := (by repeat (first | (with_reducible exact Kp.refl _) | (with_reducible assumption) | (with_reducible apply Kp.ext) | (with_reducible apply Kp.alloc) | (with_reducible apply Kp.drew) | (with_reducible apply Kp.drewN) | (with_reducible refine Kp.setCell ?_ (by first | (dsimp only; omega) | (simp; omega) | (simp; done) | (simp [size_ext_eq]; omega)) _)))
  have cx : (w.alloc (.cells #[.float .f64 x, .float .f64 y] 98)).cell? ⟨w.heap.size, 0, none⟩ = some (.float .f64 x) := by simp
  have cy : (w.alloc (.cells #[.float .f64 x, .float .f64 y] 98)).cell? ⟨w.heap.size, 1, none⟩ = some (.float .f64 y) := by simp
  have hlt : w.heap.size < (w.alloc (.cells #[.float .f64 x, .float .f64 y] 98)).heap.size := by simp
  have hnew := h.new (Nat.le_refl _)
  have h0 := h.kp hk0
  generalize w.alloc (.cells #[.float .f64 x, .float .f64 y] 98) = W at *
  have H0 := Lib.hid h0
  have Cx := Lib.hid cx
  have Cy := Lib.hid cy
  obtain ⟨e0, e1, e2, ez, ltE, _, _, _, _, _, _, _, _, _⟩ := h0
  clear ez h cx cy
  first | (with_reducible refine wp_region_ext_tail2 8 ?_ ?_ ?_) | refine wp_region_ext_tail 8 ?_ ?_ ?_
  kernel_rfl
  kernel_rfl
  simp only [List.take_succ_cons, List.take_zero, List.drop_succ_cons, List.drop_zero]
  repeat (go_big_quiet_step (fail))
  refine wpQuiet_nil ?_
  rintro _ ⟨u, rfl⟩
  go_wp2_with (go_at_call 110; (with_reducible refine (encPut32 ((H0.out.kp (by repeat (first | (with_reducible exact Kp.refl _) | (with_reducible assumption) | (with_reducible apply Kp.ext) | (with_reducible apply Kp.alloc) | (with_reducible apply Kp.drew) | (with_reducible apply Kp.drewN) | (with_reducible refine Kp.setCell ?_ (by first | (dsimp only; omega) | (simp; omega) | (simp; done) | (simp [size_ext_eq]; omega)) _)))).nil) (536870913) (536870913) (by omega) (by omega) 0 16 16 (by simp) (by omega) (by omega)).mono ?_); rintro e w1 ⟨rfl, hp1, hk1⟩)
  have k1 : Kx [gb, gB, gD] W w1 := (Kx.refl _ W).trans ((Kx.of_kp (show Kp W _ from (by repeat (first | (with_reducible exact Kp.refl _) | (with_reducible assumption) | (with_reducible apply Kp.ext) | (with_reducible apply Kp.alloc) | (with_reducible apply Kp.drew) | (with_reducible apply Kp.drewN) | (with_reducible refine Kp.setCell ?_ (by first | (dsimp only; omega) | (simp; omega) | (simp; done) | (simp [size_ext_eq]; omega)) _))))).trans hk1.b1)
  have H1 := Lib.hid hp1
  have K1 := Lib.hid k1
  have c1x := (k1.cell (o := 0) hlt hnew).trans Cx.out
  have c1y := (k1.cell (o := 1) hlt hnew).trans Cy.out
  have s1 := k1.size
  have t1 : w.heap.size < w1.heap.size := Nat.lt_of_lt_of_le hlt s1
  clear  e0 e1 e2 ltE hk1 k1
  obtain ⟨e0, e1, e2, ez, ltE, _, _, _, _, _, _, _, _, _⟩ := hp1.enc
  clear ez hp1
  first | (with_reducible refine wp_region_ext_tail2 11 ?_ ?_ ?_) | refine wp_region_ext_tail 11 ?_ ?_ ?_
  kernel_rfl
  kernel_rfl
  simp only [List.take_succ_cons, List.take_zero, List.drop_succ_cons, List.drop_zero]
  repeat (go_big_quiet_step (fail))
  refine wpQuiet_nil ?_
  rintro _ ⟨u, rfl⟩
  go_wp2_with (go_at_call 110; (with_reducible refine (encPut32 (H1.out.kp (by repeat (first | (with_reducible exact Kp.refl _) | (with_reducible assumption) | (with_reducible apply Kp.ext) | (with_reducible apply Kp.alloc) | (with_reducible apply Kp.drew) | (with_reducible apply Kp.drewN) | (with_reducible refine Kp.setCell ?_ (by first | (dsimp only; omega) | (simp; omega) | (simp; done) | (simp [size_ext_eq]; omega)) _)))) (s) ((s : Int)) (by omega) (by omega) 4 12 12 (by simp [L1.out]) (by omega) (by omega)).mono ?_); rintro e w2 ⟨rfl, hp2, hk2⟩)
  have k2 : Kx [gb, gB, gD] W w2 := K1.out.trans ((Kx.of_kp (show Kp w1 _ from (by repeat (first | (with_reducible exact Kp.refl _) | (with_reducible assumption) | (with_reducible apply Kp.ext) | (with_reducible apply Kp.alloc) | (with_reducible apply Kp.drew) | (with_reducible apply Kp.drewN) | (with_reducible refine Kp.setCell ?_ (by first | (dsimp only; omega) | (simp; omega) | (simp; done) | (simp [size_ext_eq]; omega)) _))))).trans hk2.b1)
  have H2 := Lib.hid hp2
  have K2 := Lib.hid k2
  have c2x := (k2.cell (o := 0) hlt hnew).trans Cx.out
  have c2y := (k2.cell (o := 1) hlt hnew).trans Cy.out
  have s2 := k2.size
  have t2 : w.heap.size < w2.heap.size := Nat.lt_of_lt_of_le hlt s2
  clear c1x c1y e0 e1 e2 ltE hk2 k2
  obtain ⟨e0, e1, e2, ez, ltE, _, _, _, _, _, _, _, _, _⟩ := hp2.enc
  clear ez hp2
  go_region_held3 (fun w' => w'.cell? ⟨gE, 0, none⟩ = some (.slice (some ⟨gb, 0, none⟩) 16 16) ∧ w'.cell? ⟨gE, 1, none⟩ = some (.iface 80 (.pointer (some ⟨gB, 0, none⟩)))) (first | exact ⟨hp3.e0, hp3.e1⟩ | (simp [go_sem, *]; done))
    ((go_at_call 137; (with_reducible refine (encWrite (H2.out.kp (by repeat (first | (with_reducible exact Kp.refl _) | (with_reducible assumption) | (with_reducible apply Kp.ext) | (with_reducible apply Kp.alloc) | (with_reducible apply Kp.drew) | (with_reducible apply Kp.drewN) | (with_reducible refine Kp.setCell ?_ (by first | (dsimp only; omega) | (simp; omega) | (simp; done) | (simp [size_ext_eq]; omega)) _)))) 8 16 (by simp [L1.out, L4.out]) (by omega) (by omega)).mono ?_); rintro e w3 ⟨rfl, hp3, hk3⟩))
  go_wp2_with fail
  have k3 : Kx [gb, gB, gD] W w3 := K2.out.trans ((Kx.of_kp (show Kp w2 _ from (by repeat (first | (with_reducible exact Kp.refl _) | (with_reducible assumption) | (with_reducible apply Kp.ext) | (with_reducible apply Kp.alloc) | (with_reducible apply Kp.drew) | (with_reducible apply Kp.drewN) | (with_reducible refine Kp.setCell ?_ (by first | (dsimp only; omega) | (simp; omega) | (simp; done) | (simp [size_ext_eq]; omega)) _))))).trans hk3)
  have H3 := Lib.hid hp3
  have K3 := Lib.hid k3
  have c3x := (k3.cell (o := 0) hlt hnew).trans Cx.out
  have c3y := (k3.cell (o := 1) hlt hnew).trans Cy.out
  have s3 := k3.size
  have t3 : w.heap.size < w3.heap.size := Nat.lt_of_lt_of_le hlt s3
  clear c2x c2y e0 e1 e2 ltE hk3 k3
  obtain ⟨e0, e1, e2, ez, ltE, _, _, _, _, _, _, _, _, _⟩ := hp3
  clear ez
  first | (with_reducible refine wp_region_ext_tail2 11 ?_ ?_ ?_) | refine wp_region_ext_tail 11 ?_ ?_ ?_
  kernel_rfl
  kernel_rfl
  simp only [List.take_succ_cons, List.take_zero, List.drop_succ_cons, List.drop_zero]
  repeat (go_big_quiet_step (fail))
  refine wpQuiet_nil ?_
  rintro _ ⟨u, rfl⟩
  go_wp2_with (go_at_call 111; (with_reducible refine (encPut64 ((H3.out.kp (by repeat (first | (with_reducible exact Kp.refl _) | (with_reducible assumption) | (with_reducible apply Kp.ext) | (with_reducible apply Kp.alloc) | (with_reducible apply Kp.drew) | (with_reducible apply Kp.drewN) | (with_reducible refine Kp.setCell ?_ (by first | (dsimp only; omega) | (simp; omega) | (simp; done) | (simp [size_ext_eq]; omega)) _)))).nil) x hx 0 16 16 (by simp) (by omega) (by omega) (by omega)).mono ?_); rintro e w4 ⟨rfl, hp4, hk4⟩)
  have k4 : Kx [gb, gB, gD] W w4 := K3.out.trans ((Kx.of_kp (show Kp w3 _ from (by repeat (first | (with_reducible exact Kp.refl _) | (with_reducible assumption) | (with_reducible apply Kp.ext) | (with_reducible apply Kp.alloc) | (with_reducible apply Kp.drew) | (with_reducible apply Kp.drewN) | (with_reducible refine Kp.setCell ?_ (by first | (dsimp only; omega) | (simp; omega) | (simp; done) | (simp [size_ext_eq]; omega)) _))))).trans hk4.b1)
  have H4 := Lib.hid hp4
  have K4 := Lib.hid k4
  have c4x := (k4.cell (o := 0) hlt hnew).trans Cx.out
  have c4y := (k4.cell (o := 1) hlt hnew).trans Cy.out
  have s4 := k4.size
  have t4 : w.heap.size < w4.heap.size := Nat.lt_of_lt_of_le hlt s4
  clear c3x c3y e0 e1 e2 ltE hk4 k4
  obtain ⟨e0, e1, e2, ez, ltE, _, _, _, _, _, _, _, _, _⟩ := hp4.enc
  clear ez hp4
  first | (with_reducible refine wp_region_ext_tail2 12 ?_ ?_ ?_) | refine wp_region_ext_tail 12 ?_ ?_ ?_
  kernel_rfl
  kernel_rfl
  simp only [List.take_succ_cons, List.take_zero, List.drop_succ_cons, List.drop_zero]
  repeat (go_big_quiet_step (fail))
  refine wpQuiet_nil ?_
  rintro _ ⟨u, rfl⟩
  go_wp2_with (go_at_call 111; (with_reducible refine (encPut64 (H4.out.kp (by repeat (first | (with_reducible exact Kp.refl _) | (with_reducible assumption) | (with_reducible apply Kp.ext) | (with_reducible apply Kp.alloc) | (with_reducible apply Kp.drew) | (with_reducible apply Kp.drewN) | (with_reducible refine Kp.setCell ?_ (by first | (dsimp only; omega) | (simp; omega) | (simp; done) | (simp [size_ext_eq]; omega)) _)))) y hy 8 8 8 (by simp [L2.out]) (by omega) (by omega) (by omega)).mono ?_); rintro e w5 ⟨rfl, hp5, hk5⟩)
  have k5 : Kx [gb, gB, gD] W w5 := K4.out.trans ((Kx.of_kp (show Kp w4 _ from (by repeat (first | (with_reducible exact Kp.refl _) | (with_reducible assumption) | (with_reducible apply Kp.ext) | (with_reducible apply Kp.alloc) | (with_reducible apply Kp.drew) | (with_reducible apply Kp.drewN) | (with_reducible refine Kp.setCell ?_ (by first | (dsimp only; omega) | (simp; omega) | (simp; done) | (simp [size_ext_eq]; omega)) _))))).trans hk5.b1)
  have H5 := Lib.hid hp5
  have K5 := Lib.hid k5
  have c5x := (k5.cell (o := 0) hlt hnew).trans Cx.out
  have c5y := (k5.cell (o := 1) hlt hnew).trans Cy.out
  have s5 := k5.size
  have t5 : w.heap.size < w5.heap.size := Nat.lt_of_lt_of_le hlt s5
  clear c4x c4y e0 e1 e2 ltE hk5 k5
  obtain ⟨e0, e1, e2, ez, ltE, _, _, _, _, _, _, _, _, _⟩ := hp5.enc
  clear ez hp5
  go_region_held3 (fun w' => w'.cell? ⟨gE, 0, none⟩ = some (.slice (some ⟨gb, 0, none⟩) 16 16) ∧ w'.cell? ⟨gE, 1, none⟩ = some (.iface 80 (.pointer (some ⟨gB, 0, none⟩)))) (first | exact ⟨hp6.e0, hp6.e1⟩ | (simp [go_sem, *]; done))
    ((go_at_call 137; (with_reducible refine (encWrite (H5.out.kp (by repeat (first | (with_reducible exact Kp.refl _) | (with_reducible assumption) | (with_reducible apply Kp.ext) | (with_reducible apply Kp.alloc) | (with_reducible apply Kp.drew) | (with_reducible apply Kp.drewN) | (with_reducible refine Kp.setCell ?_ (by first | (dsimp only; omega) | (simp; omega) | (simp; done) | (simp [size_ext_eq]; omega)) _)))) 16 16 (by simp [L2.out, L3.out]) (by omega) (by simp [L1.out, L4.out]; omega)).mono ?_); rintro e w6 ⟨rfl, hp6, hk6⟩))
  go_wp2_with fail
  go_ret
  refine ⟨rfl, by simpa using hp6, (Kx.of_kp hk0).trans (K5.out.trans ((Kx.of_kp (show Kp w5 _ from (by repeat (first | (with_reducible exact Kp.refl _) | (with_reducible assumption) | (with_reducible apply Kp.ext) | (with_reducible apply Kp.alloc) | (with_reducible apply Kp.drew) | (with_reducible apply Kp.drewN) | (with_reducible refine Kp.setCell ?_ (by first | (dsimp only; omega) | (simp; omega) | (simp; done) | (simp [size_ext_eq]; omega)) _))))).trans hk6))⟩
end Go.Proofs.YtnmokjgiilfdlaaGreatDoor

set_option linter.all false
namespace Go.Proofs.YtnmokjgiilfdlaaGreatDoor
open PubFl Go.RowKit

attribute [local go_sem] cell_ext frozen_ext ext_setCell cell_store size_ext_eq lt_p0 lt_p1 lt_p2 lt_p3 lt_p4 lt_p5 lt_p6 lt_p7 lt_p8 lt_p9 lt_p10 lt_p11 lt_p12 lt_p13 lt_p14 lt_p15 lt_p16 lt_p17 lt_p18 lt_p19 lt_p20 lt_p21 lt_p22 lt_p23 lt_p24 lt_p25 lt_p26 lt_p27 lt_p28 lt_p29 lt_p30 lt_p31 lt_p32 lt_q1 lt_q2 lt_q3 lt_q4 lt_q5 lt_q6 lt_q7 lt_q8 lt_q9 lt_q10 lt_q11 lt_q12 lt_q13 lt_q14 lt_q15 lt_q16 lt_q17 lt_q18 lt_q19 lt_q20 lt_q21 lt_q22 lt_q23 lt_q24 lt_q25 lt_q26 lt_q27 lt_q28 lt_q29 lt_q30 lt_q31 lt_q32 run_fop run_store_float
attribute [local go_sem high] cmp_eql cmp_neq cmp_lss cmp_leq cmp_gtr cmp_geq
attribute [local go_sem] x_bits

/-- what a form of several parts has behind the order of bytes -/
def prefB (t s l : Nat) (big : Bool) : List Nat := if s = 0 then num32 t big ++ num32 l big else num32 (t + 536870912) big ++ num32 s big ++ num32 l big
def prefN (s : Nat) : Nat := if s = 0 then 8 else 12
theorem prefB_length (t s l : Nat) (big : Bool) : (prefB t s l big).length = prefN s := by
  unfold prefB prefN
  by_cases h : s = 0
  · rw [if_pos h, if_pos h, List.length_append, num32_length, num32_length]
  · rw [if_neg h, if_neg h, List.length_append, List.length_append, num32_length, num32_length, num32_length]
theorem prefN_le (s : Nat) : prefN s ≤ 12 := by unfold prefN; split <;> omega
theorem prefix_c (gE gb gB gD cap : Nat) (big : Bool) (bs : List Nat) (t l s : Nat) (ti si : Int) (hti : ti = (t : Int)) (hsi : si = (s : Int)) (h1t : 1 ≤ t) (ht : t ≤ 7) (hl : l < 4294967296) (hs : s ≤ 999999) (w : World) (h : EncW w gE gb gB gD cap big bs) (hroom : bs.length + prefN s ≤ cap) :
    Calls Tryz.prog 112 #[.pointer (some ⟨gE, 0, none⟩), .int .u32 ti, .int .i64 (l : Int), .int .i64 si] w (RetE gE gb gB gD cap big bs (prefB t s l big) w) := by
  subst hti hsi
  by_cases h0 : s = 0
  · subst h0
    have e : prefB t 0 l big = num32 t big ++ num32 l big := by unfold prefB; rw [if_pos rfl]
    rw [e]
    have hr : bs.length + 8 ≤ cap := hroom
    exact prefix0_c gE gb gB gD cap big bs t l (by omega) hl w h hr
  · have e : prefB t s l big = num32 (t + 536870912) big ++ num32 s big ++ num32 l big := by unfold prefB; rw [if_neg h0]
    rw [e]
    have hr : bs.length + 12 ≤ cap := by unfold prefN at hroom; rw [if_neg h0] at hroom; exact hroom
    exact prefixS_c gE gb gB gD cap big bs t l s h1t ht hl (by omega) hs w h hr

/-- bytes, and behind them those of so many points -/
def linB (acc : List Nat) (ps : List (Nat × Nat)) (big : Bool) (k : Nat) : List Nat := acc ++ ptsForm (ps.take k) big
theorem linB_zero (acc : List Nat) (ps : List (Nat × Nat)) (big : Bool) : linB acc ps big 0 = acc := by unfold linB ptsForm; simp
theorem linB_all (acc : List Nat) (ps : List (Nat × Nat)) (big : Bool) : linB acc ps big ps.length = acc ++ ptsForm ps big := by unfold linB; rw [List.take_of_length_le (Nat.le_refl _)]
theorem linB_succ (acc : List Nat) (ps : List (Nat × Nat)) (big : Bool) (k : Nat) (h : k < ps.length) : linB acc ps big (k + 1) = linB acc ps big k ++ (num64 (ps[k]'h).1 big ++ num64 (ps[k]'h).2 big) := by
  unfold linB
  rw [List.take_succ_eq_append_getElem h, ptsForm_snoc]
  simp only [List.append_assoc]
theorem linB_length (acc : List Nat) (ps : List (Nat × Nat)) (big : Bool) (k : Nat) (h : k ≤ ps.length) : (linB acc ps big k).length = acc.length + k * 16 := by
  unfold linB
  rw [List.length_append, ptsForm_length, List.length_take, Nat.min_eq_left h]

set_option maxRecDepth 20000 in
set_option maxHeartbeats 4000000 in
theorem writeLS_c (gE gb gB gD cap : Nat) (big : Bool) (bs : List Nat) (s : Nat) (hs : s ≤ 999999) (si : Int) (hsi : si = (s : Int)) (ps : List (Nat × Nat)) (h300 : ps.length ≤ 300) (hb : Bits ps) (g c : Nat) (w : World) (h : EncW w gE gb gB gD cap big bs) (hg : g < w.heap.size) (hgn : g ∉ [gb, gB, gD]) (hpt : PtsAt w g 0 ps)
    (hroom : bs.length + prefN s + ps.length * 16 ≤ cap) :
    Calls Tryz.prog 87 #[.pointer (some ⟨gE, 0, none⟩), .slice (some ⟨g, 0, none⟩) ps.length c, .int .i64 si] w (RetE gE gb gB gD cap big bs (prefB 2 s ps.length big ++ ptsForm ps big) w) := by
  have HP := Lib.hid (prefix_c gE gb gB gD cap big bs 2 ps.length s 2 si rfl hsi (by decide) (by decide) (by omega) hs w h (by omega))
  have hlp := prefB_length 2 s ps.length big
  have hpn := prefN_le s
  have hlin := linB_all (bs ++ prefB 2 s ps.length big) ps big
  have hlen := fun k hk => linB_length (bs ++ prefB 2 s ps.length big) ps big k hk
  have hsuc := fun k hk => linB_succ (bs ++ prefB 2 s ps.length big) ps big k hk
  have hz := linB_zero (bs ++ prefB 2 s ps.length big) ps big
  simp only [List.length_append] at hlen
  rw [List.append_assoc] at hlin
  generalize prefB 2 s ps.length big = pf at *
  generalize linB (bs ++ pf) ps big = lin at *
  have Hlin := Lib.hid hlin
  have Hlen := Lib.hid hlen
  have Hsuc := Lib.hid hsuc
  have Hz := Lib.hid hz
  have Hlp := Lib.hid hlp
  have Hb := Lib.hid hb
  have Hpt := Lib.hid hpt
  have Hw := Lib.hid h
  clear hlin hlen hsuc hz hlp hb hpt hsi h
  obtain ⟨n, hn⟩ : ∃ n, ps.length = n := ⟨_, rfl⟩
  rw [hn] at HP h300 hroom Hlin ⊢
  have Hn := Lib.hid hn
  clear hn
  go_enter Tryz.func87, Tryz.ntmps87
  go_wp2_with (go_at_call 112; (with_reducible refine (HP.out).mono ?_); rintro e w1 ⟨rfl, hp1, hk1⟩)
  rw [← Hz.out] at hp1
  have H1 := Lib.hid hp1
  have K1 := Lib.hid hk1
  clear hp1 hk1
  go_loopw [7, 20] (fun s7 s20 wr => ∃ k : Nat, k ≤ n ∧ s20 = .int .i64 k ∧ s7 = .nilIface ∧ EncW wr gE gb gB gD cap big (lin k) ∧ Kx [gb, gB, gD] w wr) (fun _ s20 _ => n - (intOf s20).toNat)
  case atStart => exact ⟨0, Nat.zero_le _, rfl, rfl, H1.out, K1.out⟩
  case round =>
    obtain ⟨k, hkn, rfl, rfl, henc, hkx⟩ := hrel
    by_cases hlt : k < n
    · have hkp : k < ps.length := by have := Hn.out; omega
      obtain ⟨e0', e1'⟩ := Hpt.out k hkp
      have d0 := (hkx.cell hg hgn).trans e0'
      have d1 := (hkx.cell hg hgn).trans e1'
      have hgr := Nat.lt_of_lt_of_le hg hkx.size
      obtain ⟨b0, b1⟩ := Hb.out k hkp
      have hst := Hsuc.out k hkp
      have hle := Hlen.out k (by omega)
      obtain ⟨⟨px, py⟩, hq⟩ : ∃ q, ps[k]'hkp = q := ⟨_, rfl⟩
      rw [hq] at d0 d1 b0 b1 hst
      dsimp only at b0 b1 hst
      rw [Nat.zero_add] at d0 d1
      have hk1 : (k : Int) < (n : Int) := by omega
      have hlen2 : (lin k).length + 16 ≤ cap := by have := Hlp.out; omega
      generalize lin k = acc at *
      have Hst := Lib.hid hst
      have hpl := num64_length px big
      have hpl2 := num64_length py big
      have L2 := Lib.hid hpl
      have L3 := Lib.hid hpl2
      clear hq hst e0' e1' hle hpl hpl2
      have hnew := henc.new (Nat.le_refl _)
      have KX := Lib.hid hkx
      have hsw := hkx.size
      go_wp2_with fail
      have hk0 : Kp wr (wr.alloc (.cells #[.float .f64 px, .float .f64 py] 98)) := (by repeat (first | (with_reducible exact Kp.refl _) | (with_reducible assumption) | (with_reducible apply Kp.ext) | (with_reducible apply Kp.alloc) | (with_reducible apply Kp.drew) | (with_reducible apply Kp.drewN) | (with_reducible refine Kp.setCell ?_ (by first | (dsimp only; omega) | (simp; omega) | (simp; done) | (simp [size_ext_eq]; omega)) _)))
      have cx : (wr.alloc (.cells #[.float .f64 px, .float .f64 py] 98)).cell? ⟨wr.heap.size, 0, none⟩ = some (.float .f64 px) := by simp
      have cy : (wr.alloc (.cells #[.float .f64 px, .float .f64 py] 98)).cell? ⟨wr.heap.size, 1, none⟩ = some (.float .f64 py) := by simp
      have hlt0 : wr.heap.size < (wr.alloc (.cells #[.float .f64 px, .float .f64 py] 98)).heap.size := by simp
      have h0 := henc.kp hk0
      generalize wr.alloc (.cells #[.float .f64 px, .float .f64 py] 98) = W at *
      have H0 := Lib.hid h0
      have Cx := Lib.hid cx
      have Cy := Lib.hid cy
      have HK0 := Lib.hid hk0
      obtain ⟨e0, e1, e2, ez, ltE, _, _, _, _, _, _, _, _, _⟩ := h0
      clear ez henc cx cy hkx d0 d1 hk0
      have c0x := Cx.out
      first | (with_reducible refine wp_region_ext_tail2 11 ?_ ?_ ?_) | refine wp_region_ext_tail 11 ?_ ?_ ?_
      kernel_rfl
      kernel_rfl
      simp only [List.take_succ_cons, List.take_zero, List.drop_succ_cons, List.drop_zero]
      repeat (go_big_quiet_step (fail))
      refine wpQuiet_nil ?_
      rintro _ ⟨u, rfl⟩
      go_wp2_with (go_at_call 111; (with_reducible refine (encPut64 (H0.out.kp (by repeat (first | (with_reducible exact Kp.refl _) | (with_reducible assumption) | (with_reducible apply Kp.ext) | (with_reducible apply Kp.alloc) | (with_reducible apply Kp.drew) | (with_reducible apply Kp.drewN) | (with_reducible refine Kp.setCell ?_ (by first | (dsimp only; omega) | (simp; omega) | (simp; done) | (simp [size_ext_eq]; omega)) _)))).nil px b0 0 16 16 (by simp) (by omega) (by omega) (by omega)).mono ?_); rintro e w2 ⟨rfl, hp2, hk2⟩)
      have k2 : Kx [gb, gB, gD] W w2 := (Kx.of_kp (show Kp W _ from (by repeat (first | (with_reducible exact Kp.refl _) | (with_reducible assumption) | (with_reducible apply Kp.ext) | (with_reducible apply Kp.alloc) | (with_reducible apply Kp.drew) | (with_reducible apply Kp.drewN) | (with_reducible refine Kp.setCell ?_ (by first | (dsimp only; omega) | (simp; omega) | (simp; done) | (simp [size_ext_eq]; omega)) _))))).trans hk2.b1
      have H2 := Lib.hid hp2
      have K2 := Lib.hid k2
      have c2y := (k2.cell (o := 1) hlt0 hnew).trans Cy.out
      have t2 : wr.heap.size < w2.heap.size := Nat.lt_of_lt_of_le hlt0 k2.size
      clear c0x e0 e1 e2 ltE hk2 k2
      obtain ⟨e0, e1, e2, ez, ltE, _, _, _, _, _, _, _, _, _⟩ := hp2.enc
      clear ez hp2
      first | (with_reducible refine wp_region_ext_tail2 12 ?_ ?_ ?_) | refine wp_region_ext_tail 12 ?_ ?_ ?_
      kernel_rfl
      kernel_rfl
      simp only [List.take_succ_cons, List.take_zero, List.drop_succ_cons, List.drop_zero]
      repeat (go_big_quiet_step (fail))
      refine wpQuiet_nil ?_
      rintro _ ⟨u, rfl⟩
      go_wp2_with (go_at_call 111; (with_reducible refine (encPut64 (H2.out.kp (by repeat (first | (with_reducible exact Kp.refl _) | (with_reducible assumption) | (with_reducible apply Kp.ext) | (with_reducible apply Kp.alloc) | (with_reducible apply Kp.drew) | (with_reducible apply Kp.drewN) | (with_reducible refine Kp.setCell ?_ (by first | (dsimp only; omega) | (simp; omega) | (simp; done) | (simp [size_ext_eq]; omega)) _)))) py b1 8 8 8 (by simp [L2.out]) (by omega) (by omega) (by omega)).mono ?_); rintro e w3 ⟨rfl, hp3, hk3⟩)
      have k3 : Kx [gb, gB, gD] W w3 := K2.out.trans ((Kx.of_kp (show Kp w2 _ from (by repeat (first | (with_reducible exact Kp.refl _) | (with_reducible assumption) | (with_reducible apply Kp.ext) | (with_reducible apply Kp.alloc) | (with_reducible apply Kp.drew) | (with_reducible apply Kp.drewN) | (with_reducible refine Kp.setCell ?_ (by first | (dsimp only; omega) | (simp; omega) | (simp; done) | (simp [size_ext_eq]; omega)) _))))).trans hk3.b1)
      have H3 := Lib.hid hp3
      have K3 := Lib.hid k3
      clear c2y e0 e1 e2 ltE hk3 k3
      obtain ⟨e0, e1, e2, ez, ltE, _, _, _, _, _, _, _, _, _⟩ := hp3.enc
      clear ez hp3
      go_region_held3 (fun w' => w'.cell? ⟨gE, 0, none⟩ = some (.slice (some ⟨gb, 0, none⟩) 16 16) ∧ w'.cell? ⟨gE, 1, none⟩ = some (.iface 80 (.pointer (some ⟨gB, 0, none⟩)))) (first | exact ⟨hp4.e0, hp4.e1⟩ | (simp [go_sem, *]; done))
        ((go_at_call 137; (with_reducible refine (encWrite (H3.out.kp (by repeat (first | (with_reducible exact Kp.refl _) | (with_reducible assumption) | (with_reducible apply Kp.ext) | (with_reducible apply Kp.alloc) | (with_reducible apply Kp.drew) | (with_reducible apply Kp.drewN) | (with_reducible refine Kp.setCell ?_ (by first | (dsimp only; omega) | (simp; omega) | (simp; done) | (simp [size_ext_eq]; omega)) _)))) 16 16 (by simp [L2.out, L3.out]) (by omega) (by omega)).mono ?_); rintro e w4 ⟨rfl, hp4, hk4⟩))
      have k4 : Kx [gb, gB, gD] w w4 := KX.out.trans ((Kx.of_kp HK0.out).trans (K3.out.trans ((Kx.of_kp (show Kp w3 _ from (by repeat (first | (with_reducible exact Kp.refl _) | (with_reducible assumption) | (with_reducible apply Kp.ext) | (with_reducible apply Kp.alloc) | (with_reducible apply Kp.drew) | (with_reducible apply Kp.drewN) | (with_reducible refine Kp.setCell ?_ (by first | (dsimp only; omega) | (simp; omega) | (simp; done) | (simp [size_ext_eq]; omega)) _))))).trans hk4)))
      have e4 : acc ++ ([] ++ num64 px big ++ num64 py big) = lin (k + 1) := by rw [Hst.out, List.nil_append]
      rw [e4] at hp4
      have H4 := Lib.hid hp4
      have K4 := Lib.hid k4
      clear hp4 hk4 k4 e4 e0 e1 e2 ltE
      go_wp2_with fail
      go_roundw
      case rel => exact ⟨k + 1, by omega, by go_num, rfl, H4.out, K4.out⟩
      case measure => simp [intOf]; omega
    · obtain rfl : k = n := by omega
      have H4 := Lib.hid henc
      have K4 := Lib.hid hkx
      clear henc hkx
      go_wp2_with fail
      go_ret
      exact ⟨rfl, by have h := H4.out; rw [Hlin.out] at h; exact h, K4.out⟩
end Go.Proofs.YtnmokjgiilfdlaaGreatDoor

set_option linter.all false
namespace Go.Proofs.YtnmokjgiilfdlaaGreatDoor
open PubFl Go.RowKit

attribute [local go_sem] cell_ext frozen_ext ext_setCell cell_store size_ext_eq lt_p0 lt_p1 lt_p2 lt_p3 lt_p4 lt_p5 lt_p6 lt_p7 lt_p8 lt_p9 lt_p10 lt_p11 lt_p12 lt_p13 lt_p14 lt_p15 lt_p16 lt_p17 lt_p18 lt_p19 lt_p20 lt_p21 lt_p22 lt_p23 lt_p24 lt_p25 lt_p26 lt_p27 lt_p28 lt_p29 lt_p30 lt_p31 lt_p32 lt_q1 lt_q2 lt_q3 lt_q4 lt_q5 lt_q6 lt_q7 lt_q8 lt_q9 lt_q10 lt_q11 lt_q12 lt_q13 lt_q14 lt_q15 lt_q16 lt_q17 lt_q18 lt_q19 lt_q20 lt_q21 lt_q22 lt_q23 lt_q24 lt_q25 lt_q26 lt_q27 lt_q28 lt_q29 lt_q30 lt_q31 lt_q32 run_fop run_store_float
attribute [local go_sem high] cmp_eql cmp_neq cmp_lss cmp_leq cmp_gtr cmp_geq
attribute [local go_sem] x_bits

/-- the lists of a polygon, wherever they lie -/
def RingsAt (w : World) (g : Nat) (ls : List (List (Nat × Nat))) (S : List Nat) : Prop := ∀ (i : Nat) (h : i < ls.length), ∃ gi ci, w.cell? ⟨g, i, none⟩ = some (.slice (some ⟨gi, 0, none⟩) (ls[i]'h).length ci) ∧ gi < w.heap.size ∧ gi ∉ S ∧ PtsAt w gi 0 (ls[i]'h)

set_option maxRecDepth 20000 in
set_option maxHeartbeats 8000000 in
theorem writePg_c (gE gb gB gD cap : Nat) (big : Bool) (bs : List Nat) (s : Nat) (hs : s ≤ 999999) (si : Int) (hsi : si = (s : Int)) (ls : List (List (Nat × Nat))) (h40 : ls.length ≤ 40) (hns : ∀ l ∈ ls, l.length ≤ 300) (hbs : ∀ l ∈ ls, Bits l) (g c : Nat) (w : World) (h : EncW w gE gb gB gD cap big bs) (hg : g < w.heap.size) (hgn : g ∉ [gb, gB, gD]) (hpt : RingsAt w g ls [gb, gB, gD])
    (hroom : (accB (bs ++ prefB 3 s ls.length big) (fun i => num32 (ls.getD i []).length big ++ ptsForm (ls.getD i []) big) ls.length).length ≤ cap) :
    Calls Tryz.prog 89 #[.pointer (some ⟨gE, 0, none⟩), .slice (some ⟨g, 0, none⟩) ls.length c, .int .i64 si] w
      (fun e w' => e = .returned .nilIface ∧ EncW w' gE gb gB gD cap big (accB (bs ++ prefB 3 s ls.length big) (fun i => num32 (ls.getD i []).length big ++ ptsForm (ls.getD i []) big) ls.length) ∧ Kx [gb, gB, gD] w w') := by
  have hlp := prefB_length 3 s ls.length big
  have hpn := prefN_le s
  obtain ⟨f, hf⟩ : ∃ f : Nat → List Nat, (fun i => num32 (ls.getD i []).length big ++ ptsForm (ls.getD i []) big) = f := ⟨_, rfl⟩
  rw [hf] at hroom ⊢
  have hmono : ∀ k, k ≤ ls.length → (accB (bs ++ prefB 3 s ls.length big) f k).length ≤ cap := fun k hk => Nat.le_trans (accB_mono _ _ hk) hroom
  have hm0 := hmono 0 (Nat.zero_le _)
  have ha0 : accB (bs ++ prefB 3 s ls.length big) f 0 = bs ++ prefB 3 s ls.length big := rfl
  rw [ha0, List.length_append] at hm0
  have HP := Lib.hid (prefix_c gE gb gB gD cap big bs 3 ls.length s 3 si rfl hsi (by decide) (by decide) (by omega) hs w h (by omega))
  have hsuc : ∀ k, accB (bs ++ prefB 3 s ls.length big) f (k + 1) = accB (bs ++ prefB 3 s ls.length big) f k ++ f k := fun k => rfl
  generalize prefB 3 s ls.length big = pf at *
  generalize accB (bs ++ pf) f = acs at *
  have Hf := Lib.hid hf
  have Hm := Lib.hid hmono
  have Hsuc := Lib.hid hsuc
  have Hz := Lib.hid ha0
  have Hbs := Lib.hid hbs
  have Hns := Lib.hid hns
  have Hpt := Lib.hid hpt
  have Hw := Lib.hid h
  clear hmono hroom hm0 hsuc ha0 hlp hbs hns hpt hsi h hf
  obtain ⟨N, hN⟩ : ∃ n, ls.length = n := ⟨_, rfl⟩
  rw [hN] at HP h40 ⊢
  have HN := Lib.hid hN
  clear hN
  go_enter Tryz.func89, Tryz.ntmps89
  go_wp2_with (go_at_call 112; (with_reducible refine (HP.out).mono ?_); rintro e w1 ⟨rfl, hp1, hk1⟩)
  rw [← Hz.out] at hp1
  have H1 := Lib.hid hp1
  have K1 := Lib.hid hk1
  clear hp1 hk1
  go_loopw [24] (fun s24 wr => ∃ k : Nat, k ≤ N ∧ s24 = .int .i64 k ∧ EncW wr gE gb gB gD cap big (acs k) ∧ Kx [gb, gB, gD] w wr) (fun s24 _ => N - (intOf s24).toNat)
  case atStart => exact ⟨0, Nat.zero_le _, rfl, H1.out, K1.out⟩
  case round =>
    obtain ⟨K, hKn, rfl, hencO, hkxO⟩ := hrel
    by_cases hltO : K < N
    · have hKp : K < ls.length := by have := HN.out; omega
      obtain ⟨gi, ci, hci, hgi0, hgni, hpti⟩ := Hpt.out K hKp
      have hcr := (hkxO.cell hg hgn).trans hci
      have hgr0 := Nat.lt_of_lt_of_le hg hkxO.size
      have h300 := Hns.out _ (List.getElem_mem hKp)
      have hbl := Hbs.out _ (List.getElem_mem hKp)
      have hgd := getD_ls ls K hKp
      have hfk : f K = num32 (ls.getD K []).length big ++ ptsForm (ls.getD K []) big := by rw [← Hf.out]
      rw [hgd] at hfk
      obtain ⟨ps, hps⟩ : ∃ ps, ls[K]'hKp = ps := ⟨_, rfl⟩
      rw [hps] at hcr h300 hbl hfk hpti
      have hcap := Hm.out (K + 1) (by omega)
      rw [Hsuc.out, hfk, List.length_append, List.length_append, num32_length, ptsForm_length] at hcap
      have hse : acs (K + 1) = acs K ++ num32 ps.length big ++ ptsForm ps big := by rw [Hsuc.out, hfk, List.append_assoc]
      generalize acs K = aK at *
      have hlin := linB_all (aK ++ num32 ps.length big) ps big
      have hlen := fun k hk => linB_length (aK ++ num32 ps.length big) ps big k hk
      have hsuc := fun k hk => linB_succ (aK ++ num32 ps.length big) ps big k hk
      have hz := linB_zero (aK ++ num32 ps.length big) ps big
      have l4 := num32_length ps.length big
      simp only [List.length_append, num32_length] at hlen
      rw [← hse] at hlin
      generalize linB (aK ++ num32 ps.length big) ps big = lin at *
      have Hlin := Lib.hid hlin
      have Hlen := Lib.hid hlen
      have Hsuc2 := Lib.hid hsuc
      have Hz2 := Lib.hid hz
      have L4 := Lib.hid l4
      have Hb := Lib.hid hbl
      have Hpt2 := Lib.hid hpti
      have KO := Lib.hid hkxO
      have HO := Lib.hid hencO
      obtain ⟨n, hn⟩ : ∃ n, ps.length = n := ⟨_, rfl⟩
      rw [hn] at hcr h300 hcap L4 Hlin Hz2
      have Hn := Lib.hid hn
      have hK1 : (K : Int) < (N : Int) := by omega
      clear hlin hlen hsuc hz l4 hbl hpti hgd hps hfk hse hn hci
      obtain ⟨e0, e1, e2, ez, ltE, _, _, _, _, _, _, _, _, _⟩ := hencO
      clear ez hkxO
      go_wp2_with fail
      first | (with_reducible refine wp_region_ext_tail2 11 ?_ ?_ ?_) | refine wp_region_ext_tail 11 ?_ ?_ ?_
      kernel_rfl
      kernel_rfl
      simp only [List.take_succ_cons, List.take_zero, List.drop_succ_cons, List.drop_zero]
      repeat (go_big_quiet_step (fail))
      refine wpQuiet_nil ?_
      rintro _ ⟨u, rfl⟩
      go_wp2_with (go_at_call 110; (with_reducible refine (encPut32 (HO.out.kp (by repeat (first | (with_reducible exact Kp.refl _) | (with_reducible assumption) | (with_reducible apply Kp.ext) | (with_reducible apply Kp.alloc) | (with_reducible apply Kp.drew) | (with_reducible apply Kp.drewN) | (with_reducible refine Kp.setCell ?_ (by first | (dsimp only; omega) | (simp; omega) | (simp; done) | (simp [size_ext_eq]; omega)) _)))).nil n _ rfl (by omega) 0 16 16 rfl (by omega) (by omega)).mono ?_); rintro e w5 ⟨rfl, hp5, hk5⟩)
      have k5 : Kx [gb, gB, gD] wr w5 := (Kx.of_kp (show Kp wr _ from (by repeat (first | (with_reducible exact Kp.refl _) | (with_reducible assumption) | (with_reducible apply Kp.ext) | (with_reducible apply Kp.alloc) | (with_reducible apply Kp.drew) | (with_reducible apply Kp.drewN) | (with_reducible refine Kp.setCell ?_ (by first | (dsimp only; omega) | (simp; omega) | (simp; done) | (simp [size_ext_eq]; omega)) _))))).trans hk5.b1
      have H5 := Lib.hid hp5
      have K5 := Lib.hid k5
      clear hcr hgr0 e0 e1 e2 ltE hk5 k5
      obtain ⟨e0, e1, e2, ez, ltE, _, _, _, _, _, _, _, _, _⟩ := hp5.enc
      clear ez hp5
      go_region_held3 (fun w' => w'.cell? ⟨gE, 0, none⟩ = some (.slice (some ⟨gb, 0, none⟩) 16 16) ∧ w'.cell? ⟨gE, 1, none⟩ = some (.iface 80 (.pointer (some ⟨gB, 0, none⟩)))) (first | exact ⟨hp6.e0, hp6.e1⟩ | (simp [go_sem, *]; done))
        ((go_at_call 137; (with_reducible refine (encWrite (H5.out.kp (by repeat (first | (with_reducible exact Kp.refl _) | (with_reducible assumption) | (with_reducible apply Kp.ext) | (with_reducible apply Kp.alloc) | (with_reducible apply Kp.drew) | (with_reducible apply Kp.drewN) | (with_reducible refine Kp.setCell ?_ (by first | (dsimp only; omega) | (simp; omega) | (simp; done) | (simp [size_ext_eq]; omega)) _)))) 4 16 (by simp [L4.out]) (by omega) (by omega)).mono ?_); rintro e w6 ⟨rfl, hp6, hk6⟩))
      have k6 : Kx [gb, gB, gD] w w6 := KO.out.trans (K5.out.trans ((Kx.of_kp (show Kp w5 _ from (by repeat (first | (with_reducible exact Kp.refl _) | (with_reducible assumption) | (with_reducible apply Kp.ext) | (with_reducible apply Kp.alloc) | (with_reducible apply Kp.drew) | (with_reducible apply Kp.drewN) | (with_reducible refine Kp.setCell ?_ (by first | (dsimp only; omega) | (simp; omega) | (simp; done) | (simp [size_ext_eq]; omega)) _))))).trans hk6))
      rw [List.nil_append, ← Hz2.out] at hp6
      have H6 := Lib.hid hp6
      have K6 := Lib.hid k6
      clear hp6 hk6 k6 e0 e1 e2 ltE
      go_wp2_with fail
      go_loopw [60] (fun s60 wr => ∃ k : Nat, k ≤ n ∧ s60 = .int .i64 k ∧ EncW wr gE gb gB gD cap big (lin k) ∧ Kx [gb, gB, gD] w wr) (fun s60 _ => n - (intOf s60).toNat)
      case atStart => exact ⟨0, Nat.zero_le _, rfl, H6.out, K6.out⟩
      case round =>
        obtain ⟨k, hkn, rfl, henc, hkx⟩ := hrel
        by_cases hlt : k < n
        · have hkp : k < ps.length := by have := Hn.out; omega
          obtain ⟨e0', e1'⟩ := Hpt2.out k hkp
          have d0 := (hkx.cell hgi0 hgni).trans e0'
          have d1 := (hkx.cell hgi0 hgni).trans e1'
          have hgr := Nat.lt_of_lt_of_le hgi0 hkx.size
          obtain ⟨b0, b1⟩ := Hb.out k hkp
          have hst := Hsuc2.out k hkp
          have hle := Hlen.out k (by omega)
          obtain ⟨⟨px, py⟩, hq⟩ : ∃ q, ps[k]'hkp = q := ⟨_, rfl⟩
          rw [hq] at d0 d1 b0 b1 hst
          dsimp only at b0 b1 hst
          rw [Nat.zero_add] at d0 d1
          have hk1 : (k : Int) < (n : Int) := by omega
          have hlen2 : (lin k).length + 16 ≤ cap := by have := Hn.out; rw [hle]; omega
          generalize lin k = acc at *
          have Hst := Lib.hid hst
          have hpl := num64_length px big
          have hpl2 := num64_length py big
          have L2 := Lib.hid hpl
          have L3 := Lib.hid hpl2
          clear hq hst e0' e1' hle hpl hpl2
          have hnew := henc.new (Nat.le_refl _)
          have KX := Lib.hid hkx
          have hsw := hkx.size
          go_wp2_with fail
          have hk0 : Kp wr (wr.alloc (.cells #[.float .f64 px, .float .f64 py] 98)) := (by repeat (first | (with_reducible exact Kp.refl _) | (with_reducible assumption) | (with_reducible apply Kp.ext) | (with_reducible apply Kp.alloc) | (with_reducible apply Kp.drew) | (with_reducible apply Kp.drewN) | (with_reducible refine Kp.setCell ?_ (by first | (dsimp only; omega) | (simp; omega) | (simp; done) | (simp [size_ext_eq]; omega)) _)))
          have cx : (wr.alloc (.cells #[.float .f64 px, .float .f64 py] 98)).cell? ⟨wr.heap.size, 0, none⟩ = some (.float .f64 px) := by simp
          have cy : (wr.alloc (.cells #[.float .f64 px, .float .f64 py] 98)).cell? ⟨wr.heap.size, 1, none⟩ = some (.float .f64 py) := by simp
          have hlt0 : wr.heap.size < (wr.alloc (.cells #[.float .f64 px, .float .f64 py] 98)).heap.size := by simp
          have h0 := henc.kp hk0
          generalize wr.alloc (.cells #[.float .f64 px, .float .f64 py] 98) = W at *
          have H0 := Lib.hid h0
          have Cx := Lib.hid cx
          have Cy := Lib.hid cy
          have HK0 := Lib.hid hk0
          obtain ⟨e0, e1, e2, ez, ltE, _, _, _, _, _, _, _, _, _⟩ := h0
          clear ez henc cx cy hkx d0 d1 hk0
          have c0x := Cx.out
          first | (with_reducible refine wp_region_ext_tail2 11 ?_ ?_ ?_) | refine wp_region_ext_tail 11 ?_ ?_ ?_
          kernel_rfl
          kernel_rfl
          simp only [List.take_succ_cons, List.take_zero, List.drop_succ_cons, List.drop_zero]
          repeat (go_big_quiet_step (fail))
          refine wpQuiet_nil ?_
          rintro _ ⟨u, rfl⟩
          go_wp2_with (go_at_call 111; (with_reducible refine (encPut64 (H0.out.kp (by repeat (first | (with_reducible exact Kp.refl _) | (with_reducible assumption) | (with_reducible apply Kp.ext) | (with_reducible apply Kp.alloc) | (with_reducible apply Kp.drew) | (with_reducible apply Kp.drewN) | (with_reducible refine Kp.setCell ?_ (by first | (dsimp only; omega) | (simp; omega) | (simp; done) | (simp [size_ext_eq]; omega)) _)))).nil px b0 0 16 16 (by simp) (by omega) (by omega) (by omega)).mono ?_); rintro e w2 ⟨rfl, hp2, hk2⟩)
          have k2 : Kx [gb, gB, gD] W w2 := (Kx.of_kp (show Kp W _ from (by repeat (first | (with_reducible exact Kp.refl _) | (with_reducible assumption) | (with_reducible apply Kp.ext) | (with_reducible apply Kp.alloc) | (with_reducible apply Kp.drew) | (with_reducible apply Kp.drewN) | (with_reducible refine Kp.setCell ?_ (by first | (dsimp only; omega) | (simp; omega) | (simp; done) | (simp [size_ext_eq]; omega)) _))))).trans hk2.b1
          have H2 := Lib.hid hp2
          have K2 := Lib.hid k2
          have c2y := (k2.cell (o := 1) hlt0 hnew).trans Cy.out
          have t2 : wr.heap.size < w2.heap.size := Nat.lt_of_lt_of_le hlt0 k2.size
          clear c0x e0 e1 e2 ltE hk2 k2
          obtain ⟨e0, e1, e2, ez, ltE, _, _, _, _, _, _, _, _, _⟩ := hp2.enc
          clear ez hp2
          first | (with_reducible refine wp_region_ext_tail2 12 ?_ ?_ ?_) | refine wp_region_ext_tail 12 ?_ ?_ ?_
          kernel_rfl
          kernel_rfl
          simp only [List.take_succ_cons, List.take_zero, List.drop_succ_cons, List.drop_zero]
          repeat (go_big_quiet_step (fail))
          refine wpQuiet_nil ?_
          rintro _ ⟨u, rfl⟩
          go_wp2_with (go_at_call 111; (with_reducible refine (encPut64 (H2.out.kp (by repeat (first | (with_reducible exact Kp.refl _) | (with_reducible assumption) | (with_reducible apply Kp.ext) | (with_reducible apply Kp.alloc) | (with_reducible apply Kp.drew) | (with_reducible apply Kp.drewN) | (with_reducible refine Kp.setCell ?_ (by first | (dsimp only; omega) | (simp; omega) | (simp; done) | (simp [size_ext_eq]; omega)) _)))) py b1 8 8 8 (by simp [L2.out]) (by omega) (by omega) (by omega)).mono ?_); rintro e w3 ⟨rfl, hp3, hk3⟩)
          have k3 : Kx [gb, gB, gD] W w3 := K2.out.trans ((Kx.of_kp (show Kp w2 _ from (by repeat (first | (with_reducible exact Kp.refl _) | (with_reducible assumption) | (with_reducible apply Kp.ext) | (with_reducible apply Kp.alloc) | (with_reducible apply Kp.drew) | (with_reducible apply Kp.drewN) | (with_reducible refine Kp.setCell ?_ (by first | (dsimp only; omega) | (simp; omega) | (simp; done) | (simp [size_ext_eq]; omega)) _))))).trans hk3.b1)
          have H3 := Lib.hid hp3
          have K3 := Lib.hid k3
          clear c2y e0 e1 e2 ltE hk3 k3
          obtain ⟨e0, e1, e2, ez, ltE, _, _, _, _, _, _, _, _, _⟩ := hp3.enc
          clear ez hp3
          go_region_held3 (fun w' => w'.cell? ⟨gE, 0, none⟩ = some (.slice (some ⟨gb, 0, none⟩) 16 16) ∧ w'.cell? ⟨gE, 1, none⟩ = some (.iface 80 (.pointer (some ⟨gB, 0, none⟩)))) (first | exact ⟨hp4.e0, hp4.e1⟩ | (simp [go_sem, *]; done))
            ((go_at_call 137; (with_reducible refine (encWrite (H3.out.kp (by repeat (first | (with_reducible exact Kp.refl _) | (with_reducible assumption) | (with_reducible apply Kp.ext) | (with_reducible apply Kp.alloc) | (with_reducible apply Kp.drew) | (with_reducible apply Kp.drewN) | (with_reducible refine Kp.setCell ?_ (by first | (dsimp only; omega) | (simp; omega) | (simp; done) | (simp [size_ext_eq]; omega)) _)))) 16 16 (by simp [L2.out, L3.out]) (by omega) (by omega)).mono ?_); rintro e w4 ⟨rfl, hp4, hk4⟩))
          have k4 : Kx [gb, gB, gD] w w4 := KX.out.trans ((Kx.of_kp HK0.out).trans (K3.out.trans ((Kx.of_kp (show Kp w3 _ from (by repeat (first | (with_reducible exact Kp.refl _) | (with_reducible assumption) | (with_reducible apply Kp.ext) | (with_reducible apply Kp.alloc) | (with_reducible apply Kp.drew) | (with_reducible apply Kp.drewN) | (with_reducible refine Kp.setCell ?_ (by first | (dsimp only; omega) | (simp; omega) | (simp; done) | (simp [size_ext_eq]; omega)) _))))).trans hk4)))
          have e4 : acc ++ ([] ++ num64 px big ++ num64 py big) = lin (k + 1) := by rw [Hst.out, List.nil_append]
          rw [e4] at hp4
          have H4 := Lib.hid hp4
          have K4 := Lib.hid k4
          clear hp4 hk4 k4 e4 e0 e1 e2 ltE
          go_wp2_with fail
          go_roundw
          case rel => exact ⟨k + 1, by omega, by go_num, H4.out, K4.out⟩
          case measure => simp [intOf]; omega
        · obtain rfl : k = n := by omega
          have H4 := Lib.hid henc
          have K4 := Lib.hid hkx
          clear henc hkx
          go_wp2_with fail
          go_roundw
          case rel => exact ⟨K + 1, by omega, by go_num, by have h := H4.out; rw [Hlin.out] at h; exact h, K4.out⟩
          case measure => simp [intOf]; omega
    · obtain rfl : K = N := by omega
      have H4 := Lib.hid hencO
      have K4 := Lib.hid hkxO
      clear hencO hkxO
      go_wp2_with fail
      go_ret
      exact ⟨rfl, H4.out, K4.out⟩
end Go.Proofs.YtnmokjgiilfdlaaGreatDoor
