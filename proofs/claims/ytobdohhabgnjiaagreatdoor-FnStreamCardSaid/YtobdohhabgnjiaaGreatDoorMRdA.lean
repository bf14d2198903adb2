/-
  A reader of bytes, and the eight bytes it reads into: their state.
  bytes.Reader.Read, io.ReadFull.
  io.ReadAtLeast, io.ReadFull.
  readUint32, readByteOrderType: read off a reader.
  readPoint: read off a reader.
  readLineString: read off a reader.
  readMultiPoint: read off a reader.
-/
import Derived.Test.YtobdohhabgnjiaaGreatDoorMDecB
import Derived.Test.YtobdohhabgnjiaaGreatDoorMGrA
import Derived.Laws.MakeOwn
set_option linter.all false
namespace Go.Proofs.YtobdohhabgnjiaaGreatDoor
open PubFl Go.RowKit

attribute [local go_sem] cell_ext frozen_ext ext_setCell cell_store size_ext_eq lt_p0 lt_p1 lt_p2 lt_p3 lt_p4 lt_p5 lt_p6 lt_p7 lt_p8 lt_p9 lt_p10 lt_p11 lt_p12 lt_p13 lt_p14 lt_p15 lt_p16 lt_p17 lt_p18 lt_p19 lt_p20 lt_p21 lt_p22 lt_p23 lt_p24 lt_p25 lt_p26 lt_p27 lt_p28 lt_p29 lt_p30 lt_p31 lt_p32 lt_q1 lt_q2 lt_q3 lt_q4 lt_q5 lt_q6 lt_q7 lt_q8 lt_q9 lt_q10 lt_q11 lt_q12 lt_q13 lt_q14 lt_q15 lt_q16 lt_q17 lt_q18 lt_q19 lt_q20 lt_q21 lt_q22 lt_q23 lt_q24 lt_q25 lt_q26 lt_q27 lt_q28 lt_q29 lt_q30 lt_q31 lt_q32 run_fop run_store_float
attribute [local go_sem high] cmp_eql cmp_neq cmp_lss cmp_leq cmp_gtr cmp_geq

/-- a reader in block gR of a world that keeps w0, where its bytes lie: what it has still to give -/
structure Rdr (w0 w : World) (gR : Nat) (bs : List Nat) : Prop where
  kp : Kp w0 w
  ge : w0.heap.size ≤ gR
  lt : gR < w.heap.size
  st : ∃ g off n c i : Nat, w.cell? ⟨gR, 0, none⟩ = some (.slice (some ⟨g, off, none⟩) n c) ∧ w.cell? ⟨gR, 1, none⟩ = some (.int .i64 (i : Int)) ∧ i + bs.length = n ∧ n ≤ c ∧ n ≤ 1000000000000 ∧ g < w0.heap.size ∧ BytesAt w0 g (off + i) bs
  c2 : ∃ r : Int, w.cell? ⟨gR, 2, none⟩ = some (.int .i64 r)
  rz : ∀ j, w.frozen? ⟨gR, j, none⟩ = false
theorem Rdr.kx {S : List Nat} {w0 w w' : World} {gR : Nat} {bs : List Nat} (h : Rdr w0 w gR bs) (k : Kx S w w') (n1 : gR ∉ S) (hs : ∀ b ∈ S, w0.heap.size ≤ b) : Rdr w0 w' gR bs := by
  obtain ⟨h1, h2, h3, ⟨g, off, n, c, i, h4, h5, h6⟩, ⟨r, h7⟩, h8⟩ := h
  exact ⟨k.kp h1 hs, h2, Nat.lt_of_lt_of_le h3 k.size, ⟨g, off, n, c, i, (k.cell h3 n1).trans h4, (k.cell h3 n1).trans h5, h6⟩, ⟨r, (k.cell h3 n1).trans h7⟩, fun j => (k.frozen h3 n1).trans (h8 j)⟩
theorem Rdr.kp' {w0 w w' : World} {gR : Nat} {bs : List Nat} (h : Rdr w0 w gR bs) (k : Kp w w') : Rdr w0 w' gR bs := h.kx (S := []) (Kx.of_kp k) (by simp) (by simp)
/-- so many bytes of room, in a row of the call's own -/
structure Bf (w0 w : World) (gb m : Nat) : Prop where
  ge : w0.heap.size ≤ gb
  row : ∃ cur : Array Value, w.heap[gb]? = some (.cells cur 5 (0, 0)) ∧ cur.size = m
theorem Bf.lt {w0 w : World} {gb m : Nat} (h : Bf w0 w gb m) : gb < w.heap.size := by
  obtain ⟨_, cur, hr, _⟩ := h
  exact lt_heap' hr
theorem Bf.kx {S : List Nat} {w0 w w' : World} {gb m : Nat} (h : Bf w0 w gb m) (k : Kx S w w') (n1 : gb ∉ S) : Bf w0 w' gb m := by
  have hl := h.lt
  obtain ⟨h1, cur, h2, h3⟩ := h
  exact ⟨h1, cur, (k.block gb hl n1).trans h2, h3⟩
/-- a reader, and the eight bytes that are read into -/
structure RdW (w0 w : World) (gR gb : Nat) (bs : List Nat) : Prop where
  rd : Rdr w0 w gR bs
  bf : Bf w0 w gb 8
  ne : gR ≠ gb
theorem RdW.kp {w0 w w' : World} {gR gb : Nat} {bs : List Nat} (h : RdW w0 w gR gb bs) (k : Kp w w') : RdW w0 w' gR gb bs := ⟨h.rd.kp' k, h.bf.kx (S := []) (Kx.of_kp k) (by simp), h.ne⟩
def rdrV (gR : Nat) : Value := .iface 68 (.pointer (some ⟨gR, 0, none⟩))
/-- what a read of a form leaves: what this says, and the rest; or an error -/
def RetRd (b : Bool) (w0 : World) (gR gb : Nat) (r : List Nat) (w : World) (G : World → Value → Prop) (z : Value) (e : Ending) (w' : World) : Prop :=
  (b = true → ∃ v, e = .returned (.tuple #[v, .nilIface]) ∧ RdW w0 w' gR gb r ∧ Kx [gR, gb] w w' ∧ G w' v) ∧ (b = false → ∃ a, ErrA w' a ∧ e = .returned (.tuple #[z, errV a]) ∧ Kx [gR, gb] w w' ∧ Kp w0 w')
theorem own_kx {S : List Nat} {w w' : World} {base : Nat} {e : TypeId} {size : Nat} {v : Value} {n : Nat} {xs : List Value} (h : w.ownsRow base e size v n xs) (k : Kx S w w') (hs : ∀ b ∈ S, b < base) : w'.ownsRow base e size v n xs :=
  own_agree h fun g hg => k.block g (h.lt g hg).2 fun c => by have := hs g c; have := (h.lt g hg).1; omega
/-- one more, where some older blocks have changed -/
theorem RowsP.stepK {E : Nat → Nat → Nat → World → Value → Prop} (hE : KeepE E) {T : TypeId} {L : Nat} {wr w2 w1 : World} {rv rv' x : Value} {k n1 n2 : Nat} {xs : List Value} (h : RowsP E T L wr rv k xs) (hk : ∀ b, L ≤ b → b < wr.heap.size → w2.heap[b]? = wr.heap[b]?) (hsz : wr.heap.size ≤ w2.heap.size) (hx : E k n1 n2 w2 x)
    (h0 : L ≤ n1) (h1 : wr.heap.size ≤ n1) (h2 : n2 ≤ w2.heap.size) (hown : w1.ownsRow L T 1 rv' (k + 1) (xs ++ [x])) (hg : w2.grownBy w1 rv.ownBlock) (hb : rv'.ownBlock = rv.ownBlock ∨ rv'.ownBlock = some w2.heap.size) :
    RowsP E T L w1 rv' (k + 1) (xs ++ [x]) := by
  have hl : xs.length = k := by have := h.own.1; omega
  obtain ⟨g0, hg0⟩ := h.nn
  have hs0 := (own_size h.own hg0).2
  have hsg := hg.size
  refine ⟨hown, by rcases hb with e | e <;> exact ⟨_, e.trans (by first | exact hg0 | rfl)⟩, fun i hi => ?_⟩
  by_cases c : i = k
  · subst c
    refine ⟨x, n1, n2, by rw [List.getElem?_append_right (by omega)]; simp [hl], ?_, h0, by omega, ?_⟩
    · refine hE i n1 n2 w2 w1 x (Agree.of_grown hg h2 fun r hr => ?_) hsg hx
      rw [hg0] at hr; cases hr; omega
    · intro g hgg
      rcases hb with e | e
      · rw [e, hg0] at hgg; cases hgg; omega
      · rw [e] at hgg; cases hgg; omega
  · obtain ⟨y, lo, hi', hy, he, q1, q2, q3⟩ := h.el i (by omega)
    have q4 := q3 g0 hg0
    refine ⟨y, lo, hi', by rw [List.getElem?_append_left (by omega)]; exact hy, ?_, q1, by omega, ?_⟩
    · refine hE i lo hi' wr w1 y (Agree.trans (w' := w2) (fun b b1 b2 => hk b (by omega) (by omega)) (Agree.of_grown hg (by omega) fun r hr => ?_)) (by omega) he
      rw [hg0] at hr; cases hr; omega
    · intro g hgg
      rcases hb with e | e
      · rw [e, hg0] at hgg; cases hgg; omega
      · rw [e] at hgg; cases hgg; omega
theorem Kx.own {gR gb L : Nat} {w w' : World} (k : Kx [gR, gb] w w') (h1 : gR < L) (h2 : gb < L) : ∀ b, L ≤ b → b < w.heap.size → w'.heap[b]? = w.heap[b]? := fun b hb hl => k.block b hl (by simp; omega)
end Go.Proofs.YtobdohhabgnjiaaGreatDoor

set_option linter.all false
namespace Go.Proofs.YtobdohhabgnjiaaGreatDoor
open PubFl Go.RowKit

attribute [local go_sem] cell_ext frozen_ext ext_setCell cell_store size_ext_eq lt_p0 lt_p1 lt_p2 lt_p3 lt_p4 lt_p5 lt_p6 lt_p7 lt_p8 lt_p9 lt_p10 lt_p11 lt_p12 lt_p13 lt_p14 lt_p15 lt_p16 lt_p17 lt_p18 lt_p19 lt_p20 lt_p21 lt_p22 lt_p23 lt_p24 lt_p25 lt_p26 lt_p27 lt_p28 lt_p29 lt_p30 lt_p31 lt_p32 lt_q1 lt_q2 lt_q3 lt_q4 lt_q5 lt_q6 lt_q7 lt_q8 lt_q9 lt_q10 lt_q11 lt_q12 lt_q13 lt_q14 lt_q15 lt_q16 lt_q17 lt_q18 lt_q19 lt_q20 lt_q21 lt_q22 lt_q23 lt_q24 lt_q25 lt_q26 lt_q27 lt_q28 lt_q29 lt_q30 lt_q31 lt_q32 run_fop run_store_float
attribute [local go_sem high] cmp_eql cmp_neq cmp_lss cmp_leq cmp_gtr cmp_geq

/-- a reader at its end -/
theorem readEnd_c (w0 w : World) (gR : Nat) (h : Rdr w0 w gR []) (a : Addr) (hE : w.cell? ⟨9, 0, none⟩ = some (errV a)) (hl : 9 < w.heap.size) (p : Option Addr) (n c : Nat) :
    Calls Tryz.prog 117 #[.pointer (some ⟨gR, 0, none⟩), .slice p n c] w (Ret w (.tuple #[.int .i64 0, errV a])) := by
  obtain ⟨h1, h2, h3, ⟨g, off, m, c', i, h4, h5, h6, _⟩, ⟨r, h7⟩, h8⟩ := h
  obtain rfl : i = m := by simpa using h6
  unfold errV at hE ⊢
  clear h8 h6 h7
  go_enter Tryz.func117, Tryz.ntmps117
  go_wp2_with fail
  first | (with_reducible refine wp_region_ext_lit2 ?_ ?_ ?_) | refine wp_region_ext_lit ?_ ?_ ?_
  kernel_rfl
  kernel_rfl
  repeat (go_big_quiet_step (fail))
  refine wpQuiet_nil ?_
  rintro _ ⟨u, rfl⟩
  go_wp2_with fail
  first | (with_reducible refine wp_region_ext_lit2 ?_ ?_ ?_) | refine wp_region_ext_lit ?_ ?_ ?_
  kernel_rfl
  kernel_rfl
  repeat (go_big_quiet_step (fail))
  refine wpQuiet_nil ?_
  rintro _ ⟨u, rfl⟩
  go_wp2_with fail
  exact bodyPost_ret (v := .tuple #[.int .i64 0, .iface 191 (.pointer (some a))]) (by simp [results, Tryz.results117, go_sem]) rfl (Ret.mk rfl (by repeat (first | (with_reducible exact Kp.refl _) | (with_reducible assumption) | (with_reducible apply Kp.ext) | (with_reducible apply Kp.alloc) | (with_reducible apply Kp.drew) | (with_reducible apply Kp.drewN) | (with_reducible refine Kp.setCell ?_ (by first | (dsimp only; omega) | (simp; omega) | (simp; done) | (simp [size_ext_eq]; omega)) _))))

/-- what a read leaves: so many bytes -/
def GotB (w0 : World) (gR gb M : Nat) (qs r : List Nat) (w : World) (e : Ending) (w' : World) : Prop :=
  e = .returned (.tuple #[.int .i64 (qs.length : Int), .nilIface]) ∧ Rdr w0 w' gR r ∧ Bf w0 w' gb M ∧ BytesAt w' gb 0 qs ∧ Kx [gR, gb] w w'
theorem drop_bc {bs : List Nat} {w : World} {g off i : Nat} {qs r : List Nat} (h : BytesAt w g (off + i) (qs ++ r)) : BytesAt w g (off + (i + qs.length)) r := by
  have := h.back
  rwa [show off + i + qs.length = off + (i + qs.length) by omega] at this
theorem cell_of_row {w : World} {g j : Nat} {c : Array Value} {T : TypeId} {d : Nat × Nat} (h : w.heap[g]? = some (.cells c T d)) : w.cell? ⟨g, j, none⟩ = c[j]? := by
  unfold World.cell?
  simp [h]
theorem read_mid {w w1 : World} {gR gb : Nat} {x : Value} (k : Kp (w.setCell ⟨gR, 2, none⟩ x) w1) (hne : gR ≠ gb) (hR : gR < w.heap.size) (hb : gb < w.heap.size) (cs : Array Value) {cur : Array Value} {T : TypeId} {d : Nat × Nat} (hr : w1.heap[gb]? = some (.cells cur T d)) :
    Kx [gR, gb] w (w1.setRow gb cs) ∧ (∀ o, o ≠ 2 → (w1.setRow gb cs).cell? ⟨gR, o, none⟩ = w.cell? ⟨gR, o, none⟩) ∧ ((w1.setRow gb cs).cell? ⟨gR, 2, none⟩ = (w.cell? ⟨gR, 2, none⟩).map fun _ => x) ∧ (∀ o, (w1.setRow gb cs).frozen? ⟨gR, o, none⟩ = w.frozen? ⟨gR, o, none⟩) ∧ (w1.setRow gb cs).heap[gb]? = some (.cells cs T d) := by
  have hb' : (w1.setRow gb cs).heap[gR]? = (w.setCell ⟨gR, 2, none⟩ x).heap[gR]? := (setRow_other _ _ _ _ hne).trans (k.block gR (by simpa using hR))
  refine ⟨?_, fun o ho => ?_, ?_, fun o => ?_, setRow_heap _ _ _ _ _ _ hr⟩
  · exact (((Kx.refl [gR, gb] w).setCell (by simp) 2 x).trans (Kx.of_kp k)).setRow (by simp) cs
  · rw [World.cell?_of_block hb']
    exact World.cell?_setCell_other _ _ _ _ (fun e => ho (by injection e with _ e _; exact e.symm))
  · rw [World.cell?_of_block hb']
    exact cell_store _ _ _
  · rw [World.frozen?_of_block hb']
    simp
set_option maxRecDepth 20000 in
set_option maxHeartbeats 1000000 in
theorem read_c (w0 w : World) (gR gb M m c : Nat) (qs r : List Nat) (h : Rdr w0 w gR (qs ++ r)) (hb : Bf w0 w gb M) (hne : gR ≠ gb) (hq : 0 < qs.length) (hqm : qs.length = Nat.min m (qs ++ r).length) (hm : m ≤ M) :
    Calls Tryz.prog 117 #[.pointer (some ⟨gR, 0, none⟩), .slice (some ⟨gb, 0, none⟩) m c] w (GotB w0 gR gb M qs r w) := by
  have H0 := Lib.hid h
  obtain ⟨h1, h2, h3, ⟨g, off, n, c', i, h4, h5, h6, h7, h8, h9, h10⟩, ⟨r2, h11⟩, h12⟩ := h
  obtain ⟨b1, cur, b2, b3⟩ := id hb
  rw [List.length_append] at h6 hqm
  have z1 := h12 1
  have z2 := h12 2
  have hgb := hb.lt
  have hg : g < w.heap.size := Nat.lt_of_lt_of_le h9 h1.size
  have n1 : g ≠ gR := by omega
  have n2 : g ≠ gb := by omega
  have e1 : ((n : Int) ≤ (i : Int)) = False := eq_false (by omega)
  have e2 : (i : Int) ≤ (n : Int) := by omega
  have e3 : (c' = i) = False := eq_false (by omega)
  have e4 : (i = c') = False := eq_false (by omega)
  have Hr := Lib.hid (fun w' (k : Kp (w.setCell ⟨gR, 2, none⟩ (.int .i64 (-1))) w') => show w'.heap[gb]? = some (.cells cur 5 (0, 0)) from (k.block gb (by simpa using hgb)).trans (by
    rw [Below.heap_setCell _ _ _ _ (by dsimp only; omega)]; exact b2))
  have Ha := Lib.hid (fun w' (k : Kp (w.setCell ⟨gR, 2, none⟩ (.int .i64 (-1))) w') => show ∀ j u, (bc qs)[j]? = some u → w'.cell? ((⟨g, off + i, none⟩ : Addr).add j) = some u from BytesAt.cells (fun j hj => by
    rw [Kp.cell k ((World.cell?_setCell_other _ _ _ _ (fun e => n1 (by injection e with e; exact e.symm))).trans ((h10.front.kp h9 h1) j hj)) (by simpa using hg)]))
  have hszU : (Tryz.prog.info? 5).map (·.size) = some 1 := by
    obtain ⟨i0, hi, _, hz1, _⟩ := info_parts infoU8
    rw [hi, Option.map_some, hz1]
  have HszU := Lib.hid hszU
  have Hlq := Lib.hid (show (bc qs).length = Nat.min (n - i) m by rw [bc_length, show n - i = qs.length + r.length by omega]; exact hqm.trans (Nat.min_comm _ _))
  have Hone := Lib.hid (bc_one qs)
  have Hfit : Hid (0 + (bc qs).length ≤ cur.size) := Lib.hid (by rw [bc_length, b3, hqm]; exact Nat.le_trans (by rw [Nat.zero_add]; exact Nat.min_le_left _ _) hm)
  have HB := Lib.hid hb
  have Hb3 := Lib.hid b3
  have H6 := Lib.hid h6
  have H10 := Lib.hid (drop_bc (bs := []) h10)
  clear b2 hqm hszU h10 h12 b3 h6
  go_enter Tryz.func117, Tryz.ntmps117
  go_wp2_with fail
  first | (with_reducible refine wp_region_ext_lit2 ?_ ?_ ?_) | refine wp_region_ext_lit ?_ ?_ ?_
  kernel_rfl
  kernel_rfl
  repeat (go_big_quiet_step (fail))
  refine wpQuiet_nil ?_
  rintro _ ⟨u, rfl⟩
  go_wp2_with fail
  first | (with_reducible refine wp_region_ext_tail2 10 ?_ ?_ ?_) | refine wp_region_ext_tail 10 ?_ ?_ ?_
  kernel_rfl
  kernel_rfl
  simp only [List.take_succ_cons, List.take_zero, List.drop_succ_cons, List.drop_zero]
  repeat (go_big_quiet_step (fail))
  refine wpQuiet_nil ?_
  rintro _ ⟨u, rfl⟩
  refine wpList_copy_own rfl (.tmp 20) (.tmp 29) 25 25 rfl 5 Tryz.underlying25 HszU.out gb 0 _ _ ⟨g, off + i, none⟩ (n - i) (c' - i) rfl rfl cur 5 (Hr.out _ (by repeat (first | (with_reducible exact Kp.refl _) | (with_reducible assumption) | (with_reducible apply Kp.ext) | (with_reducible apply Kp.alloc) | (with_reducible apply Kp.drew) | (with_reducible apply Kp.drewN) | (with_reducible refine Kp.setCell ?_ (by first | (dsimp only; omega) | (simp; omega) | (simp; done) | (simp [size_ext_eq]; omega)) _)))) (bc qs) Hlq.out (Ha.out _ (by repeat (first | (with_reducible exact Kp.refl _) | (with_reducible assumption) | (with_reducible apply Kp.ext) | (with_reducible apply Kp.alloc) | (with_reducible apply Kp.drew) | (with_reducible apply Kp.drewN) | (with_reducible refine Kp.setCell ?_ (by first | (dsimp only; omega) | (simp; omega) | (simp; done) | (simp [size_ext_eq]; omega)) _)))) Hfit.out Hone.out ?_
  rw [bc_length]
  have F := read_mid (w := w) (gR := gR) (gb := gb) (x := .int .i64 (-1)) (show Kp (w.setCell ⟨gR, 2, none⟩ (.int .i64 (-1))) (ext (w.setCell ⟨gR, 2, none⟩ (.int .i64 (-1))) u) from (by repeat (first | (with_reducible exact Kp.refl _) | (with_reducible assumption) | (with_reducible apply Kp.ext) | (with_reducible apply Kp.alloc) | (with_reducible apply Kp.drew) | (with_reducible apply Kp.drewN) | (with_reducible refine Kp.setCell ?_ (by first | (dsimp only; omega) | (simp; omega) | (simp; done) | (simp [size_ext_eq]; omega)) _)))) hne h3 hgb (cur.toList.take 0 ++ (bc qs ++ cur.toList.drop (0 + qs.length))).toArray (Hr.out _ (by repeat (first | (with_reducible exact Kp.refl _) | (with_reducible assumption) | (with_reducible apply Kp.ext) | (with_reducible apply Kp.alloc) | (with_reducible apply Kp.drew) | (with_reducible apply Kp.drewN) | (with_reducible refine Kp.setCell ?_ (by first | (dsimp only; omega) | (simp; omega) | (simp; done) | (simp [size_ext_eq]; omega)) _))))
  generalize (ext (w.setCell ⟨gR, 2, none⟩ (.int .i64 (-1))) u).setRow gb _ = W3 at F ⊢
  obtain ⟨f1, f2, f3, f4, f5⟩ := F
  have c1 := (f2 1 (by decide)).trans h5
  have z3 := (f4 1).trans z1
  have e5 : (i : Int) + (qs.length : Int) ≤ 1000000000000 := by have := H6.out; omega
  have Hh4 := Lib.hid h4
  have Hh11 := Lib.hid h11
  have F1 := Lib.hid f1
  have F2 := Lib.hid f2
  have F3 := Lib.hid f3
  have F4 := Lib.hid f4
  have F5 := Lib.hid f5
  clear f1 f2 f3 f4 f5 e1 e3 e4 h4 h5 z1 z2 h11
  go_wp2_with fail
  refine bodyPost_ret (v := .tuple #[.int .i64 (qs.length : Int), .nilIface]) (by simp [results, Tryz.results117, go_sem]) rfl ?_
  have k3 : Kx [gR, gb] w (W3.setCell ⟨gR, 1, none⟩ (.int .i64 ((i : Int) + (qs.length : Int)))) := F1.out.setCell (by simp) 1 _
  obtain ⟨q1, q2, q3, _, _, q8⟩ := H0.out
  have hf := Hfit.out
  rw [bc_length, Hb3.out] at hf
  have hrow : (W3.setCell ⟨gR, 1, none⟩ (.int .i64 ((i : Int) + (qs.length : Int)))).heap[gb]? = some (.cells (cur.toList.take 0 ++ (bc qs ++ cur.toList.drop (0 + qs.length))).toArray 5 (0, 0)) := (Below.heap_setCell _ _ _ _ (by dsimp only; omega)).trans F5.out
  refine ⟨rfl, ⟨k3.kp q1 (by have := hb.ge; simp; omega), q2, Nat.lt_of_lt_of_le q3 k3.size, ⟨g, off, n, c', i + qs.length, ?_, ?_, by have := H6.out; omega, h7, h8, h9, ?_⟩, ⟨-1, ?_⟩, fun j => ?_⟩, ⟨hb.ge, _, hrow, ?_⟩, fun j hj => ?_, k3⟩
  · exact (World.cell?_setCell_other _ _ _ _ (by simp)).trans ((F2.out 0 (by decide)).trans Hh4.out)
  · exact (World.cell?_setCell_same _ _ _ c1).trans (by simp)
  · exact H10.out
  · refine (World.cell?_setCell_other _ _ _ _ (by simp)).trans (F3.out.trans ?_)
    rw [Hh11.out]; rfl
  · have := (F4.out j).trans (q8 j)
    simpa using this
  · have hl : cur.toList.length = M := by rw [Array.length_toList]; exact Hb3.out
    simp only [List.size_toArray, List.length_append, List.length_take, List.length_drop, hl, bc_length]
    omega
  · rw [cell_of_row hrow]
    have hj2 : j < (bc qs).length := by rw [bc_length]; exact hj
    simp only [List.take_zero, List.nil_append, List.getElem?_toArray, Nat.zero_add]
    rw [List.getElem?_append_left hj2]
    exact bc_get qs j hj
end Go.Proofs.YtobdohhabgnjiaaGreatDoor

set_option linter.all false
namespace Go.Proofs.YtobdohhabgnjiaaGreatDoor
open PubFl Go.RowKit

attribute [local go_sem] cell_ext frozen_ext ext_setCell cell_store size_ext_eq lt_p0 lt_p1 lt_p2 lt_p3 lt_p4 lt_p5 lt_p6 lt_p7 lt_p8 lt_p9 lt_p10 lt_p11 lt_p12 lt_p13 lt_p14 lt_p15 lt_p16 lt_p17 lt_p18 lt_p19 lt_p20 lt_p21 lt_p22 lt_p23 lt_p24 lt_p25 lt_p26 lt_p27 lt_p28 lt_p29 lt_p30 lt_p31 lt_p32 lt_q1 lt_q2 lt_q3 lt_q4 lt_q5 lt_q6 lt_q7 lt_q8 lt_q9 lt_q10 lt_q11 lt_q12 lt_q13 lt_q14 lt_q15 lt_q16 lt_q17 lt_q18 lt_q19 lt_q20 lt_q21 lt_q22 lt_q23 lt_q24 lt_q25 lt_q26 lt_q27 lt_q28 lt_q29 lt_q30 lt_q31 lt_q32 run_fop run_store_float
attribute [local go_sem high] cmp_eql cmp_neq cmp_lss cmp_leq cmp_gtr cmp_geq

@[go_sem] theorem methR (x : Value) (w : World) : Sem.run Tryz.prog (method 321 68 x "Read") w = .ok (117, x) w := by kernel_rfl
@[go_sem] theorem aheadR (a : Addr) (w : World) : Sem.run Tryz.prog (nilAhead 321 68 (.pointer (some a)) "Read") w = .ok (some false) w := by kernel_rfl
/-- what reading so many bytes leaves -/
def RetFull (b : Bool) (w0 : World) (gR gb : Nat) (F r : List Nat) (w : World) (e : Ending) (w' : World) : Prop :=
  (b = true → e = .returned (.tuple #[.int .i64 (F.length : Int), .nilIface]) ∧ RdW w0 w' gR gb r ∧ BytesAt w' gb 0 F ∧ Kx [gR, gb] w w') ∧
  (b = false → ∃ (a : Addr) (n : Int), ErrA w' a ∧ e = .returned (.tuple #[.int .i64 n, errV a]) ∧ Kx [gR, gb] w w' ∧ Kp w0 w')
/-- the loop of ReadAtLeast where the bytes suffice -/
def LoopT (w0 : World) (gR gb m : Nat) (F r : List Nat) (w : World) (s6 s7 : Value) (wr : World) : Prop :=
  (s6 = .int .i64 0 ∧ s7 = .nilIface ∧ Kp w wr) ∨ (s6 = .int .i64 (m : Int) ∧ s7 = .nilIface ∧ RdW w0 wr gR gb r ∧ BytesAt wr gb 0 F ∧ Kx [gR, gb] w wr)
set_option maxRecDepth 20000 in
set_option maxHeartbeats 1000000 in
theorem ratT_c (w0 w : World) (gR gb m c : Nat) (F r : List Nat) (h : RdW w0 w gR gb (F ++ r)) (h0 : 0 < m) (h8 : m ≤ 8) (hm : F.length = m) :
    Calls Tryz.prog 89 #[rdrV gR, .slice (some ⟨gb, 0, none⟩) m c, .int .i64 (m : Int)] w (RetFull true w0 gR gb F r w) := by
  have HR := Lib.hid (fun w' (k : Kp w w') => read_c w0 w' gR gb 8 m c F r (h.kp k).rd (h.kp k).bf h.ne (by omega) (by rw [List.length_append, hm]; exact (Nat.min_eq_left (by omega)).symm) h8)
  have Hm := Lib.hid hm
  have Hn := Lib.hid h.ne
  have e0 : (0 : Int) < (m : Int) := by omega
  have e1 : (0 : Int) ≤ (m : Int) := by omega
  unfold rdrV
  clear hm h
  go_enter Tryz.func89, Tryz.ntmps89
  go_wp2_with fail
  go_loopw [6, 7] (fun s6 s7 wr => LoopT w0 gR gb m F r w s6 s7 wr) (fun s6 _ _ => m - (intOf s6).toNat)
  case atStart => exact .inl ⟨rfl, rfl, (by repeat (first | (with_reducible exact Kp.refl _) | (with_reducible assumption) | (with_reducible apply Kp.ext) | (with_reducible apply Kp.alloc) | (with_reducible apply Kp.drew) | (with_reducible apply Kp.drewN) | (with_reducible refine Kp.setCell ?_ (by first | (dsimp only; omega) | (simp; omega) | (simp; done) | (simp [size_ext_eq]; omega)) _)))⟩
  case round =>
    rcases hrel with ⟨rfl, rfl, hk⟩ | ⟨rfl, rfl, hrd, hat, hk⟩
    · go_wp2_with fail
      go_region_held3 (fun _ => True) (trivial) ((go_at_call 117; (with_reducible refine (HR.out _ (show Kp w _ from (by repeat (first | (with_reducible exact Kp.refl _) | (with_reducible assumption) | (with_reducible apply Kp.ext) | (with_reducible apply Kp.alloc) | (with_reducible apply Kp.drew) | (with_reducible apply Kp.drewN) | (with_reducible refine Kp.setCell ?_ (by first | (dsimp only; omega) | (simp; omega) | (simp; done) | (simp [size_ext_eq]; omega)) _))))).mono ?_); rintro e w1 ⟨rfl, hrd, hbf, hat, hk1⟩; rw [Hm.out]))
      go_wp2_with fail
      go_roundw
      case rel => exact .inr ⟨by first | rfl | go_num, rfl, ⟨hrd, hbf, Hn.out⟩, hat, (Kx.of_kp hk.drew).trans hk1⟩
      case measure => simp [intOf]; omega
    · have HRd := Lib.hid hrd
      have HAt := Lib.hid hat
      have HK := Lib.hid hk
      clear hrd hat hk
      go_wp2_with fail
      refine bodyPost_ret (v := .tuple #[.int .i64 (m : Int), .nilIface]) (by simp [results, Tryz.results89, go_sem]) rfl ?_
      exact ⟨fun _ => ⟨by rw [Hm.out], HRd.out, HAt.out, HK.out⟩, nofun⟩

theorem RdW.ges {w0 w : World} {gR gb : Nat} {bs : List Nat} (h : RdW w0 w gR gb bs) : ∀ b ∈ [gR, gb], w0.heap.size ≤ b := fun b hb => by
  rcases List.mem_cons.1 hb with rfl | hb
  · exact h.rd.ge
  · obtain rfl := List.mem_singleton.1 hb
    exact h.bf.ge
def measR (a b : Value) : Nat := match b with
  | .nilIface => if intOf a = 0 then 2 else 1
  | _ => 0
/-- the loop where the bytes run short -/
def LoopC (w0 : World) (gR gb L : Nat) (a : Addr) (w : World) (s6 s7 : Value) (wr : World) : Prop :=
  (s6 = .int .i64 0 ∧ s7 = .nilIface ∧ Kp w wr) ∨ (s6 = .int .i64 (L : Int) ∧ s7 = .nilIface ∧ Rdr w0 wr gR [] ∧ Kx [gR, gb] w wr) ∨ (s6 = .int .i64 (L : Int) ∧ s7 = errV a ∧ Kx [gR, gb] w wr ∧ Kp w0 wr)
set_option maxRecDepth 20000 in
set_option maxHeartbeats 1000000 in
theorem ratC_c (w0 w : World) (gR gb m c L : Nat) (F bs r : List Nat) (h : RdW w0 w gR gb bs) (h0 : 0 < bs.length) (hL : bs.length = L) (hm : L < m) (h8 : m ≤ 8) (hmc : m ≤ c) (hG : Gls w0) :
    Calls Tryz.prog 89 #[rdrV gR, .slice (some ⟨gb, 0, none⟩) m c, .int .i64 (m : Int)] w (RetFull false w0 gR gb F r w) := by
  have HR := Lib.hid (fun w' (k : Kp w w') => read_c w0 w' gR gb 8 m c bs [] (by rw [List.append_nil]; exact (h.kp k).rd) (h.kp k).bf h.ne h0 (by rw [List.append_nil]; exact (Nat.min_eq_right (by omega)).symm) h8)
  obtain ⟨hl, a, ha, hea⟩ := hG.eof
  obtain ⟨hl2, a2, ha2, hea2⟩ := hG.unx
  have HE := Lib.hid (fun w' (k : Kp w0 w') => readEnd_c w0 w' gR)
  have HA := Lib.hid (show w0.cell? ⟨9, 0, none⟩ = some (errV a) from ha)
  have HA2 := Lib.hid ha2
  have Hea := Lib.hid hea
  have Hea2 := Lib.hid hea2
  have HL := Lib.hid hL
  have Hn := Lib.hid h.ne
  have Hk0 := Lib.hid h.rd.kp
  have Hge := Lib.hid (show ∀ b ∈ [gR, gb], w0.heap.size ≤ b from h.ges)
  have e0 : (0 : Int) < (m : Int) := by omega
  have e1 : (0 : Int) ≤ (m : Int) := by omega
  have e2 : (L : Int) < (m : Int) := by omega
  have e3 : (0 : Int) < (L : Int) := by omega
  have e4 : (0 : Int) ≤ (L : Int) := by omega
  have e5 : 0 < L := by omega
  have e6 : ((m : Int) ≤ (L : Int)) = False := eq_false (by omega)
  have e7 : (m ≤ L) = False := eq_false (by omega)
  have hL8 : L ≤ 8 := by omega
  have e8 : (L : Int) ≤ (m : Int) := by omega
  have e9 : (c = L) = False := eq_false (by omega)
  have e10 : (L = c) = False := eq_false (by omega)
  unfold rdrV
  clear hm h ha ha2 hea hea2 hL hG
  go_enter Tryz.func89, Tryz.ntmps89
  go_wp2_with fail
  go_loopw [6, 7] (fun s6 s7 wr => LoopC w0 gR gb L a w s6 s7 wr) (fun s6 s7 _ => measR s6 s7)
  case atStart => exact .inl ⟨rfl, rfl, (by repeat (first | (with_reducible exact Kp.refl _) | (with_reducible assumption) | (with_reducible apply Kp.ext) | (with_reducible apply Kp.alloc) | (with_reducible apply Kp.drew) | (with_reducible apply Kp.drewN) | (with_reducible refine Kp.setCell ?_ (by first | (dsimp only; omega) | (simp; omega) | (simp; done) | (simp [size_ext_eq]; omega)) _)))⟩
  case round =>
    rcases hrel with ⟨rfl, rfl, hk⟩ | ⟨rfl, rfl, hrd, hk⟩ | ⟨rfl, rfl, hk, hk0⟩
    · go_wp2_with fail
      go_region_held3 (fun _ => True) (trivial) ((go_at_call 117; (with_reducible refine (HR.out _ (show Kp w _ from (by repeat (first | (with_reducible exact Kp.refl _) | (with_reducible assumption) | (with_reducible apply Kp.ext) | (with_reducible apply Kp.alloc) | (with_reducible apply Kp.drew) | (with_reducible apply Kp.drewN) | (with_reducible refine Kp.setCell ?_ (by first | (dsimp only; omega) | (simp; omega) | (simp; done) | (simp [size_ext_eq]; omega)) _))))).mono ?_); rintro e w1 ⟨rfl, hrd, hbf, hat, hk1⟩; rw [HL.out]))
      go_wp2_with fail
      go_roundw
      case rel => exact .inr (.inl ⟨by first | rfl | go_num, rfl, hrd, (Kx.of_kp hk.drew).trans hk1⟩)
      case measure => simp [measR, intOf, show ¬ (L = 0) by omega]
    · have hcE := Kp.cell hrd.kp HA.out hl
      have hlE := Nat.lt_of_lt_of_le hl hrd.kp.size
      have HRd := Lib.hid hrd
      have HcE := Lib.hid hcE
      clear hcE hrd
      go_wp2_with fail
      go_region_held3 (fun _ => True) (trivial) ((go_at_call 117; (with_reducible refine (readEnd_c w0 _ gR (HRd.out.kp' (by repeat (first | (with_reducible exact Kp.refl _) | (with_reducible assumption) | (with_reducible apply Kp.ext) | (with_reducible apply Kp.alloc) | (with_reducible apply Kp.drew) | (with_reducible apply Kp.drewN) | (with_reducible refine Kp.setCell ?_ (by first | (dsimp only; omega) | (simp; omega) | (simp; done) | (simp [size_ext_eq]; omega)) _)))) a (Kp.cell (show Kp wr _ from (by repeat (first | (with_reducible exact Kp.refl _) | (with_reducible assumption) | (with_reducible apply Kp.ext) | (with_reducible apply Kp.alloc) | (with_reducible apply Kp.drew) | (with_reducible apply Kp.drewN) | (with_reducible refine Kp.setCell ?_ (by first | (dsimp only; omega) | (simp; omega) | (simp; done) | (simp [size_ext_eq]; omega)) _)))) HcE.out hlE) (Nat.lt_of_lt_of_le hlE (Kp.size (by repeat (first | (with_reducible exact Kp.refl _) | (with_reducible assumption) | (with_reducible apply Kp.ext) | (with_reducible apply Kp.alloc) | (with_reducible apply Kp.drew) | (with_reducible apply Kp.drewN) | (with_reducible refine Kp.setCell ?_ (by first | (dsimp only; omega) | (simp; omega) | (simp; done) | (simp [size_ext_eq]; omega)) _))))) _ _ _).mono ?_); rintro e w1 ⟨rfl, u, rfl⟩; unfold errV))
      go_wp2_with fail
      go_roundw
      case rel => exact .inr (.inr ⟨by first | rfl | go_num, rfl, hk.trans (Kx.of_kp (by repeat (first | (with_reducible exact Kp.refl _) | (with_reducible assumption) | (with_reducible apply Kp.ext) | (with_reducible apply Kp.alloc) | (with_reducible apply Kp.drew) | (with_reducible apply Kp.drewN) | (with_reducible refine Kp.setCell ?_ (by first | (dsimp only; omega) | (simp; omega) | (simp; done) | (simp [size_ext_eq]; omega)) _)))), (hk.trans (Kx.of_kp (by repeat (first | (with_reducible exact Kp.refl _) | (with_reducible assumption) | (with_reducible apply Kp.ext) | (with_reducible apply Kp.alloc) | (with_reducible apply Kp.drew) | (with_reducible apply Kp.drewN) | (with_reducible refine Kp.setCell ?_ (by first | (dsimp only; omega) | (simp; omega) | (simp; done) | (simp [size_ext_eq]; omega)) _))))).kp Hk0.out Hge.out⟩)
      case measure => simp [measR, errV, intOf, show ¬ (L = 0) by omega]
    · have c1 := Kp.cell hk0 HA.out hl
      have c2 := Kp.cell hk0 HA2.out hl2
      have hl1 := Nat.lt_of_lt_of_le hl hk0.size
      have hl3 := Nat.lt_of_lt_of_le hl2 hk0.size
      have q : Sem.run Tryz.prog (binOp BinOp.eql 55 (.iface 191 (.pointer (some a))) (.iface 191 (.pointer (some a)))) wr = .ok (.bool true) wr := by simpa using eqErr (Hea.out.kp hk0) (Hea.out.kp hk0)
      unfold errV at c1
      unfold errV
      go_wp2_with fail
      refine bodyPost_ret (v := .tuple #[.int .i64 (L : Int), .iface 191 (.pointer (some a2))]) (by simp [results, Tryz.results89, go_sem]) rfl ?_
      exact ⟨nofun, fun _ => ⟨a2, _, Hea2.out.kp hk0, rfl, hk, hk0⟩⟩

/-- .. and where there are none -/
def LoopE (w0 : World) (gR gb : Nat) (a : Addr) (w : World) (s6 s7 : Value) (wr : World) : Prop :=
  (s6 = .int .i64 0 ∧ s7 = .nilIface ∧ Kp w wr) ∨ (s6 = .int .i64 0 ∧ s7 = errV a ∧ Kp w wr)
def measE (b : Value) : Nat := match b with
  | .nilIface => 1
  | _ => 0
set_option maxRecDepth 20000 in
set_option maxHeartbeats 1000000 in
theorem ratE_c (w0 w : World) (gR gb m c : Nat) (F r : List Nat) (h : RdW w0 w gR gb []) (h0 : 0 < m) (h8 : m ≤ 8) (hG : Gls w0) :
    Calls Tryz.prog 89 #[rdrV gR, .slice (some ⟨gb, 0, none⟩) m c, .int .i64 (m : Int)] w (RetFull false w0 gR gb F r w) := by
  obtain ⟨hl, a, ha, hea⟩ := hG.eof
  have HA := Lib.hid (show w0.cell? ⟨9, 0, none⟩ = some (errV a) from ha)
  have Hea := Lib.hid hea
  have Hk0 := Lib.hid h.rd.kp
  have H := Lib.hid h
  have e0 : (0 : Int) < (m : Int) := by omega
  have e1 : (0 : Int) ≤ (m : Int) := by omega
  have e6 : ((m : Int) ≤ 0) = False := eq_false (by omega)
  have e7 : (m = 0) = False := eq_false (by omega)
  unfold rdrV
  clear h ha hea hG
  go_enter Tryz.func89, Tryz.ntmps89
  go_wp2_with fail
  go_loopw [6, 7] (fun s6 s7 wr => LoopE w0 gR gb a w s6 s7 wr) (fun _ s7 _ => measE s7)
  case atStart => exact .inl ⟨rfl, rfl, (by repeat (first | (with_reducible exact Kp.refl _) | (with_reducible assumption) | (with_reducible apply Kp.ext) | (with_reducible apply Kp.alloc) | (with_reducible apply Kp.drew) | (with_reducible apply Kp.drewN) | (with_reducible refine Kp.setCell ?_ (by first | (dsimp only; omega) | (simp; omega) | (simp; done) | (simp [size_ext_eq]; omega)) _)))⟩
  case round =>
    rcases hrel with ⟨rfl, rfl, hk⟩ | ⟨rfl, rfl, hk⟩
    · have hcE := Kp.cell (Hk0.out.trans hk) HA.out hl
      have hlE := Nat.lt_of_lt_of_le hl (Hk0.out.trans hk).size
      have HcE := Lib.hid hcE
      clear hcE
      go_wp2_with fail
      go_region_held3 (fun _ => True) (trivial) ((go_at_call 117; (with_reducible refine (readEnd_c w0 _ gR (H.out.kp (show Kp w _ from (by repeat (first | (with_reducible exact Kp.refl _) | (with_reducible assumption) | (with_reducible apply Kp.ext) | (with_reducible apply Kp.alloc) | (with_reducible apply Kp.drew) | (with_reducible apply Kp.drewN) | (with_reducible refine Kp.setCell ?_ (by first | (dsimp only; omega) | (simp; omega) | (simp; done) | (simp [size_ext_eq]; omega)) _))))).rd a (Kp.cell (show Kp wr _ from (by repeat (first | (with_reducible exact Kp.refl _) | (with_reducible assumption) | (with_reducible apply Kp.ext) | (with_reducible apply Kp.alloc) | (with_reducible apply Kp.drew) | (with_reducible apply Kp.drewN) | (with_reducible refine Kp.setCell ?_ (by first | (dsimp only; omega) | (simp; omega) | (simp; done) | (simp [size_ext_eq]; omega)) _)))) HcE.out hlE) (Nat.lt_of_lt_of_le hlE (Kp.size (by repeat (first | (with_reducible exact Kp.refl _) | (with_reducible assumption) | (with_reducible apply Kp.ext) | (with_reducible apply Kp.alloc) | (with_reducible apply Kp.drew) | (with_reducible apply Kp.drewN) | (with_reducible refine Kp.setCell ?_ (by first | (dsimp only; omega) | (simp; omega) | (simp; done) | (simp [size_ext_eq]; omega)) _))))) _ _ _).mono ?_); rintro e w1 ⟨rfl, u, rfl⟩; unfold errV))
      go_wp2_with fail
      go_roundw
      case rel => exact .inr ⟨rfl, rfl, (by repeat (first | (with_reducible exact Kp.refl _) | (with_reducible assumption) | (with_reducible apply Kp.ext) | (with_reducible apply Kp.alloc) | (with_reducible apply Kp.drew) | (with_reducible apply Kp.drewN) | (with_reducible refine Kp.setCell ?_ (by first | (dsimp only; omega) | (simp; omega) | (simp; done) | (simp [size_ext_eq]; omega)) _)))⟩
      case measure => simp [measE, errV]
    · unfold errV
      go_wp2_with fail
      refine bodyPost_ret (v := .tuple #[.int .i64 0, .iface 191 (.pointer (some a))]) (by simp [results, Tryz.results89, go_sem]) rfl ?_
      exact ⟨nofun, fun _ => ⟨a, _, Hea.out.kp (Hk0.out.trans hk), rfl, Kx.of_kp hk, Hk0.out.trans hk⟩⟩
theorem rat_c (b : Bool) (w0 w : World) (gR gb m c : Nat) (F r bs : List Nat) (hP : PreB b F r bs) (h : RdW w0 w gR gb bs) (h0 : 0 < m) (h8 : m ≤ 8) (hmc : m ≤ c) (hm : F.length = m) (hG : Gls w0) :
    Calls Tryz.prog 89 #[rdrV gR, .slice (some ⟨gb, 0, none⟩) m c, .int .i64 (m : Int)] w (RetFull b w0 gR gb F r w) := by
  cases b
  · have hl := hP.len
    by_cases hz : 0 < bs.length
    · exact ratC_c w0 w gR gb m c bs.length F bs r h hz rfl (by omega) h8 hmc hG
    · obtain rfl : bs = [] := List.eq_nil_of_length_eq_zero (by omega)
      exact ratE_c w0 w gR gb m c F r h h0 h8 hG
  · obtain rfl := hP.whole
    exact ratT_c w0 w gR gb m c F r h h0 h8 hm
set_option maxRecDepth 20000 in
set_option maxHeartbeats 1000000 in
theorem readFull_c (b : Bool) (w0 w : World) (gR gb m c : Nat) (F r bs : List Nat) (hP : PreB b F r bs) (h : RdW w0 w gR gb bs) (h0 : 0 < m) (h8 : m ≤ 8) (hmc : m ≤ c) (hm : F.length = m) (hG : Gls w0) :
    Calls Tryz.prog 78 #[rdrV gR, .slice (some ⟨gb, 0, none⟩) m c] w (RetFull b w0 gR gb F r w) := by
  have H := Lib.hid (rat_c b w0 w gR gb m c F r bs hP h h0 h8 hmc hm hG)
  have Hm := Lib.hid hm
  unfold rdrV at H ⊢
  clear hP h hm
  cases b
  · go_enter Tryz.func78, Tryz.ntmps78
    go_wp2_with ((go_at_call 89; (with_reducible refine (H.out).mono ?_); rintro e w1 ⟨_, h2⟩; obtain ⟨a, n, hea, rfl, hk, hk0⟩ := h2 rfl; unfold errV; have HE := Lib.hid hea; clear h2 hea))
    refine bodyPost_ret (v := .tuple #[.int .i64 n, .iface 191 (.pointer (some a))]) (by simp [results, Tryz.results78, go_sem]) rfl ?_
    exact ⟨nofun, fun _ => ⟨a, n, HE.out, rfl, hk, hk0⟩⟩
  · go_enter Tryz.func78, Tryz.ntmps78
    go_wp2_with ((go_at_call 89; (with_reducible refine (H.out).mono ?_); rintro e w1 ⟨h1, _⟩; obtain ⟨rfl, hrd, hat, hk⟩ := h1 rfl; rw [Hm.out]; have Hrd := Lib.hid hrd; have Hat := Lib.hid hat; clear h1 hrd hat))
    refine bodyPost_ret (v := .tuple #[.int .i64 (m : Int), .nilIface]) (by simp [results, Tryz.results78, go_sem]) rfl ?_
    exact ⟨fun _ => ⟨by rw [Hm.out], Hrd.out, Hat.out, hk⟩, nofun⟩
end Go.Proofs.YtobdohhabgnjiaaGreatDoor

set_option linter.all false
namespace Go.Proofs.YtobdohhabgnjiaaGreatDoor
open PubFl Go.RowKit

attribute [local go_sem] cell_ext frozen_ext ext_setCell cell_store size_ext_eq lt_p0 lt_p1 lt_p2 lt_p3 lt_p4 lt_p5 lt_p6 lt_p7 lt_p8 lt_p9 lt_p10 lt_p11 lt_p12 lt_p13 lt_p14 lt_p15 lt_p16 lt_p17 lt_p18 lt_p19 lt_p20 lt_p21 lt_p22 lt_p23 lt_p24 lt_p25 lt_p26 lt_p27 lt_p28 lt_p29 lt_p30 lt_p31 lt_p32 lt_q1 lt_q2 lt_q3 lt_q4 lt_q5 lt_q6 lt_q7 lt_q8 lt_q9 lt_q10 lt_q11 lt_q12 lt_q13 lt_q14 lt_q15 lt_q16 lt_q17 lt_q18 lt_q19 lt_q20 lt_q21 lt_q22 lt_q23 lt_q24 lt_q25 lt_q26 lt_q27 lt_q28 lt_q29 lt_q30 lt_q31 lt_q32 run_fop run_store_float
attribute [local go_sem high] cmp_eql cmp_neq cmp_lss cmp_leq cmp_gtr cmp_geq

theorem RetFull.yes {w0 : World} {gR gb : Nat} {F r : List Nat} {w w' : World} {e : Ending} (h : RetFull true w0 gR gb F r w e w') : e = .returned (.tuple #[.int .i64 (F.length : Int), .nilIface]) ∧ RdW w0 w' gR gb r ∧ BytesAt w' gb 0 F ∧ Kx [gR, gb] w w' := h.1 rfl
theorem RetFull.no {w0 : World} {gR gb : Nat} {F r : List Nat} {w w' : World} {e : Ending} (h : RetFull false w0 gR gb F r w e w') : ∃ (a : Addr) (n : Int), ErrA w' a ∧ e = .returned (.tuple #[.int .i64 n, .iface 191 (.pointer (some a))]) ∧ Kx [gR, gb] w w' ∧ Kp w0 w' := h.2 rfl
theorem RetRd.yes {w0 : World} {gR gb : Nat} {r : List Nat} {w w' : World} {G : World → Value → Prop} {z : Value} {e : Ending} (h : RetRd true w0 gR gb r w G z e w') : ∃ v, e = .returned (.tuple #[v, .nilIface]) ∧ RdW w0 w' gR gb r ∧ Kx [gR, gb] w w' ∧ G w' v := h.1 rfl
theorem RetRd.no {w0 : World} {gR gb : Nat} {r : List Nat} {w w' : World} {G : World → Value → Prop} {z : Value} {e : Ending} (h : RetRd false w0 gR gb r w G z e w') : ∃ a, ErrA w' a ∧ e = .returned (.tuple #[z, .iface 191 (.pointer (some a))]) ∧ Kx [gR, gb] w w' ∧ Kp w0 w' := h.2 rfl
theorem RetRd.mk1 {w0 : World} {gR gb : Nat} {r : List Nat} {w w' : World} {G : World → Value → Prop} {z v : Value} (h1 : RdW w0 w' gR gb r) (h2 : Kx [gR, gb] w w') (h3 : G w' v) : RetRd true w0 gR gb r w G z (.returned (.tuple #[v, .nilIface])) w' := ⟨fun _ => ⟨v, rfl, h1, h2, h3⟩, nofun⟩
theorem RetRd.mk0 {w0 : World} {gR gb : Nat} {r : List Nat} {w w' : World} {G : World → Value → Prop} {z : Value} {a : Addr} (h1 : ErrA w' a) (h2 : Kx [gR, gb] w w') (h3 : Kp w0 w') : RetRd false w0 gR gb r w G z (.returned (.tuple #[z, .iface 191 (.pointer (some a))])) w' := ⟨nofun, fun _ => ⟨a, h1, rfl, h2, h3⟩⟩

set_option maxRecDepth 20000 in
set_option maxHeartbeats 1000000 in
theorem readU32_c (b : Bool) (w0 w : World) (gR gb n c : Nat) (big : Bool) (r bs : List Nat) (hP : PreB b (num32 n big) r bs) (h : RdW w0 w gR gb bs) (hn : n < 4294967296) (hc : 4 ≤ c) (hG : Gls w0) :
    Calls Tryz.prog 77 #[rdrV gR, .int .i64 (ordI big), .slice (some ⟨gb, 0, none⟩) 4 c] w (RetRd b w0 gR gb r w (fun _ v => v = .int .u32 (n : Int)) (.int .u32 0)) := by
  have H := Lib.hid (readFull_c b w0 w gR gb 4 c (num32 n big) r bs hP h (by decide) (by decide) hc (num32_length _ _) hG)
  have HU := Lib.hid (fun w' (hg : gb < w'.heap.size) hat => un32_c n hn big gb 0 4 c (Nat.le_refl _) w' hg hat)
  have hl := num32_length n big
  generalize num32 n big = F at *
  generalize ordI big = o at *
  have HF := Lib.hid hl
  unfold rdrV at H ⊢
  clear hP h hl
  cases b
  · go_enter Tryz.func77, Tryz.ntmps77
    go_wp2_with ((go_at_call 78; (with_reducible refine (H.out).mono ?_); rintro e w1 h2; obtain ⟨a, n, hea, rfl, hk, hk0⟩ := h2.no; have HE := Lib.hid hea; clear h2 hea))
    refine bodyPost_ret (v := .tuple #[.int .u32 0, .iface 191 (.pointer (some a))]) (by simp [results, Tryz.results77, go_sem]) rfl ?_
    exact .mk0 HE.out hk hk0
  · go_enter Tryz.func77, Tryz.ntmps77
    go_wp2_with (first | (go_at_call 78; (with_reducible refine (H.out).mono ?_); rintro e w1 h1; obtain ⟨rfl, hrd, hat, hk⟩ := h1.yes; rw [HF.out]; have Hrd := Lib.hid hrd; have Hat := Lib.hid hat; have hgb := hrd.bf.lt; clear h1 hrd hat) | (go_at_call 84; (first | (with_reducible refine (Ret.at_ext (HU.out _ hgb Hat.out)).mono ?_) | (with_reducible refine (HU.out _ hgb Hat.out).mono ?_)); rintro e w' ⟨rfl, u, rfl⟩))
    refine bodyPost_ret (v := .tuple #[.int .u32 (n : Int), .nilIface]) (by simp [results, Tryz.results77, go_sem]) rfl ?_
    exact .mk1 (Hrd.out.kp (by repeat (first | (with_reducible exact Kp.refl _) | (with_reducible assumption) | (with_reducible apply Kp.ext) | (with_reducible apply Kp.alloc) | (with_reducible apply Kp.drew) | (with_reducible apply Kp.drewN) | (with_reducible refine Kp.setCell ?_ (by first | (dsimp only; omega) | (simp; omega) | (simp; done) | (simp [size_ext_eq]; omega)) _)))) (hk.trans (Kx.of_kp (by repeat (first | (with_reducible exact Kp.refl _) | (with_reducible assumption) | (with_reducible apply Kp.ext) | (with_reducible apply Kp.alloc) | (with_reducible apply Kp.drew) | (with_reducible apply Kp.drewN) | (with_reducible refine Kp.setCell ?_ (by first | (dsimp only; omega) | (simp; omega) | (simp; done) | (simp [size_ext_eq]; omega)) _))))) rfl

/-- what reading a head leaves -/
def RetHd (b : Bool) (w0 : World) (gR gb : Nat) (k s : Nat) (big : Bool) (r : List Nat) (w : World) (e : Ending) (w' : World) : Prop :=
  (b = true → e = .returned (.tuple #[.int .i64 (ordI big), .int .u32 (k : Int), .int .i64 (s : Int), .nilIface]) ∧ RdW w0 w' gR gb r ∧ Kx [gR, gb] w w') ∧
  (b = false → ∃ a, ErrA w' a ∧ e = .returned (.tuple #[.int .i64 0, .int .u32 0, .int .i64 0, .iface 191 (.pointer (some a))]) ∧ Kx [gR, gb] w w' ∧ Kp w0 w')
theorem and_kind2 (k : Nat) (h : k < 16) : bits BinOp.and IntKind.u32 ((k + 536870912 : Nat) : Int) 255 = (k : Int) := by
  have h' : ∀ k : Fin 16, bits BinOp.and IntKind.u32 ((k.val + 536870912 : Nat) : Int) 255 = (k.val : Int) := by decide +kernel
  exact h' ⟨k, h⟩
theorem headB_cons (k s : Nat) (big : Bool) : headB k s big = [if big then 0 else 1] ++ (if s = 0 then num32 k big else num32 (k + 536870912) big ++ num32 s big) := by
  unfold headB
  by_cases h : s = 0
  · simp only [if_pos h]; rfl
  · simp only [if_neg h]; rfl
/-- a reader at its end: no head -/
theorem hdEnd_c (w0 w : World) (gR gb k s c : Nat) (big : Bool) (r : List Nat) (h : RdW w0 w gR gb []) (hc : 8 ≤ c) (hG : Gls w0) :
    Calls Tryz.prog 58 #[rdrV gR, .slice (some ⟨gb, 0, none⟩) 8 c] w (RetHd false w0 gR gb k s big r w) := by
  obtain ⟨hl, a, ha, hea⟩ := hG.eof
  have HA := Lib.hid (show w0.cell? ⟨9, 0, none⟩ = some (errV a) from ha)
  have Hea := Lib.hid hea
  have Hk0 := Lib.hid h.rd.kp
  have H := Lib.hid h
  have e1 : (1 : Int) ≤ (c : Int) := by omega
  unfold rdrV
  clear h ha hea hG
  go_enter Tryz.func58, Tryz.ntmps58
  go_wp2_with fail
  go_region_held3 (fun _ => True) (trivial) ((go_at_call 117; (with_reducible refine (readEnd_c w0 _ gR (H.out.kp (show Kp w _ from (by repeat (first | (with_reducible exact Kp.refl _) | (with_reducible assumption) | (with_reducible apply Kp.ext) | (with_reducible apply Kp.alloc) | (with_reducible apply Kp.drew) | (with_reducible apply Kp.drewN) | (with_reducible refine Kp.setCell ?_ (by first | (dsimp only; omega) | (simp; omega) | (simp; done) | (simp [size_ext_eq]; omega)) _))))).rd a (Kp.cell (Hk0.out.trans (show Kp w _ from (by repeat (first | (with_reducible exact Kp.refl _) | (with_reducible assumption) | (with_reducible apply Kp.ext) | (with_reducible apply Kp.alloc) | (with_reducible apply Kp.drew) | (with_reducible apply Kp.drewN) | (with_reducible refine Kp.setCell ?_ (by first | (dsimp only; omega) | (simp; omega) | (simp; done) | (simp [size_ext_eq]; omega)) _))))) HA.out hl) (Nat.lt_of_lt_of_le hl (Hk0.out.trans (show Kp w _ from (by repeat (first | (with_reducible exact Kp.refl _) | (with_reducible assumption) | (with_reducible apply Kp.ext) | (with_reducible apply Kp.alloc) | (with_reducible apply Kp.drew) | (with_reducible apply Kp.drewN) | (with_reducible refine Kp.setCell ?_ (by first | (dsimp only; omega) | (simp; omega) | (simp; done) | (simp [size_ext_eq]; omega)) _))))).size) _ _ _).mono ?_); rintro e w1 ⟨rfl, u, rfl⟩; unfold errV))
  go_wp2_with fail
  refine bodyPost_ret (v := .tuple #[.int .i64 0, .int .u32 0, .int .i64 0, .iface 191 (.pointer (some a))]) (by simp [results, Tryz.results58, go_sem]) rfl ?_
  exact ⟨nofun, fun _ => ⟨a, Hea.out.kp (Hk0.out.trans (by repeat (first | (with_reducible exact Kp.refl _) | (with_reducible assumption) | (with_reducible apply Kp.ext) | (with_reducible apply Kp.alloc) | (with_reducible apply Kp.drew) | (with_reducible apply Kp.drewN) | (with_reducible refine Kp.setCell ?_ (by first | (dsimp only; omega) | (simp; omega) | (simp; done) | (simp [size_ext_eq]; omega)) _)))), rfl, Kx.of_kp (by repeat (first | (with_reducible exact Kp.refl _) | (with_reducible assumption) | (with_reducible apply Kp.ext) | (with_reducible apply Kp.alloc) | (with_reducible apply Kp.drew) | (with_reducible apply Kp.drewN) | (with_reducible refine Kp.setCell ?_ (by first | (dsimp only; omega) | (simp; omega) | (simp; done) | (simp [size_ext_eq]; omega)) _))), Hk0.out.trans (by repeat (first | (with_reducible exact Kp.refl _) | (with_reducible assumption) | (with_reducible apply Kp.ext) | (with_reducible apply Kp.alloc) | (with_reducible apply Kp.drew) | (with_reducible apply Kp.drewN) | (with_reducible refine Kp.setCell ?_ (by first | (dsimp only; omega) | (simp; omega) | (simp; done) | (simp [size_ext_eq]; omega)) _)))⟩⟩

set_option maxRecDepth 20000 in
set_option maxHeartbeats 2000000 in
theorem hd0_c (b : Bool) (w0 w : World) (gR gb k c : Nat) (hk : k < 16) (big : Bool) (r r2 : List Nat) (hP : PreB b (num32 k big) r r2) (h : RdW w0 w gR gb ([if big then 0 else 1] ++ r2)) (hc : 8 ≤ c) (hG : Gls w0) :
    Calls Tryz.prog 58 #[rdrV gR, .slice (some ⟨gb, 0, none⟩) 8 c] w (RetHd b w0 gR gb k 0 big r w) := by
  have HR := Lib.hid (fun w' (k : Kp w w') => read_c w0 w' gR gb 8 1 c [if big then 0 else 1] r2 (h.kp k).rd (h.kp k).bf h.ne (by simp) (by rw [List.length_append]; exact (Nat.min_eq_left (by simp)).symm) (by decide))
  have HU := Lib.hid (fun w' (h : RdW w0 w' gR gb r2) => readU32_c b w0 w' gR gb k c big r r2 hP h (by omega) (by omega) hG)
  have Hn := Lib.hid h.ne
  have e1 : (1 : Int) ≤ (c : Int) := by omega
  have e2 : (4 : Int) ≤ (c : Int) := by omega
  obtain ⟨a1, a2⟩ := and_kind k hk
  unfold rdrV at HU ⊢
  clear hP h hG
  cases big
  · simp only [Bool.false_eq_true, if_false, if_true] at HR
    unfold ordI at HU
    simp only [Bool.false_eq_true, if_false, if_true] at HU
    go_enter Tryz.func58, Tryz.ntmps58
    go_wp2_with fail
    go_region_held3 (fun _ => True) (trivial) ((go_at_call 117; (with_reducible refine (HR.out _ (show Kp w _ from (by repeat (first | (with_reducible exact Kp.refl _) | (with_reducible assumption) | (with_reducible apply Kp.ext) | (with_reducible apply Kp.alloc) | (with_reducible apply Kp.drew) | (with_reducible apply Kp.drewN) | (with_reducible refine Kp.setCell ?_ (by first | (dsimp only; omega) | (simp; omega) | (simp; done) | (simp [size_ext_eq]; omega)) _))))).mono ?_); rintro e w1 ⟨rfl, hrd, hbf, hat, hk1⟩))
    have c0 := hat.b0
    have hgb := hbf.lt
    have Hw1 : Hid (RdW w0 w1 gR gb r2) := Lib.hid ⟨hrd, hbf, Hn.out⟩
    have K1 : Kx [gR, gb] w w1 := (Kx.of_kp (Kp.refl w).drew).trans hk1
    clear hrd hbf hat hk1
    cases b
    · go_wp2_with (go_at_call 77; (with_reducible refine (HU.out _ (Hw1.out.kp (by repeat (first | (with_reducible exact Kp.refl _) | (with_reducible assumption) | (with_reducible apply Kp.ext) | (with_reducible apply Kp.alloc) | (with_reducible apply Kp.drew) | (with_reducible apply Kp.drewN) | (with_reducible refine Kp.setCell ?_ (by first | (dsimp only; omega) | (simp; omega) | (simp; done) | (simp [size_ext_eq]; omega)) _))))).mono ?_); rintro e w2 h2; obtain ⟨a, hea, rfl, hk2, hk0⟩ := h2.no; have HE := Lib.hid hea; clear h2 hea)
      refine bodyPost_ret (v := .tuple #[.int .i64 0, .int .u32 0, .int .i64 0, .iface 191 (.pointer (some a))]) (by simp [results, Tryz.results58, go_sem]) rfl ?_
      exact ⟨nofun, fun _ => ⟨a, HE.out, rfl, K1.trans ((Kx.of_kp (by repeat (first | (with_reducible exact Kp.refl _) | (with_reducible assumption) | (with_reducible apply Kp.ext) | (with_reducible apply Kp.alloc) | (with_reducible apply Kp.drew) | (with_reducible apply Kp.drewN) | (with_reducible refine Kp.setCell ?_ (by first | (dsimp only; omega) | (simp; omega) | (simp; done) | (simp [size_ext_eq]; omega)) _)))).trans hk2), hk0⟩⟩
    · go_wp2_with (go_at_call 77; (with_reducible refine (HU.out _ (Hw1.out.kp (by repeat (first | (with_reducible exact Kp.refl _) | (with_reducible assumption) | (with_reducible apply Kp.ext) | (with_reducible apply Kp.alloc) | (with_reducible apply Kp.drew) | (with_reducible apply Kp.drewN) | (with_reducible refine Kp.setCell ?_ (by first | (dsimp only; omega) | (simp; omega) | (simp; done) | (simp [size_ext_eq]; omega)) _))))).mono ?_); rintro e w2 h2; obtain ⟨v, rfl, hrd2, hk2, rfl⟩ := h2.yes; have Hrd2 := Lib.hid hrd2; clear h2 hrd2)
      refine bodyPost_ret (v := .tuple #[.int .i64 1, .int .u32 (k : Int), .int .i64 0, .nilIface]) (by simp [results, Tryz.results58, go_sem]) rfl ?_
      exact ⟨fun _ => ⟨rfl, Hrd2.out.kp (by repeat (first | (with_reducible exact Kp.refl _) | (with_reducible assumption) | (with_reducible apply Kp.ext) | (with_reducible apply Kp.alloc) | (with_reducible apply Kp.drew) | (with_reducible apply Kp.drewN) | (with_reducible refine Kp.setCell ?_ (by first | (dsimp only; omega) | (simp; omega) | (simp; done) | (simp [size_ext_eq]; omega)) _))), K1.trans ((Kx.of_kp (by repeat (first | (with_reducible exact Kp.refl _) | (with_reducible assumption) | (with_reducible apply Kp.ext) | (with_reducible apply Kp.alloc) | (with_reducible apply Kp.drew) | (with_reducible apply Kp.drewN) | (with_reducible refine Kp.setCell ?_ (by first | (dsimp only; omega) | (simp; omega) | (simp; done) | (simp [size_ext_eq]; omega)) _)))).trans (hk2.trans (Kx.of_kp (by repeat (first | (with_reducible exact Kp.refl _) | (with_reducible assumption) | (with_reducible apply Kp.ext) | (with_reducible apply Kp.alloc) | (with_reducible apply Kp.drew) | (with_reducible apply Kp.drewN) | (with_reducible refine Kp.setCell ?_ (by first | (dsimp only; omega) | (simp; omega) | (simp; done) | (simp [size_ext_eq]; omega)) _))))))⟩, nofun⟩
  · simp only [Bool.false_eq_true, if_false, if_true] at HR
    unfold ordI at HU
    simp only [Bool.false_eq_true, if_false, if_true] at HU
    go_enter Tryz.func58, Tryz.ntmps58
    go_wp2_with fail
    go_region_held3 (fun _ => True) (trivial) ((go_at_call 117; (with_reducible refine (HR.out _ (show Kp w _ from (by repeat (first | (with_reducible exact Kp.refl _) | (with_reducible assumption) | (with_reducible apply Kp.ext) | (with_reducible apply Kp.alloc) | (with_reducible apply Kp.drew) | (with_reducible apply Kp.drewN) | (with_reducible refine Kp.setCell ?_ (by first | (dsimp only; omega) | (simp; omega) | (simp; done) | (simp [size_ext_eq]; omega)) _))))).mono ?_); rintro e w1 ⟨rfl, hrd, hbf, hat, hk1⟩))
    have c0 := hat.b0
    have hgb := hbf.lt
    have Hw1 : Hid (RdW w0 w1 gR gb r2) := Lib.hid ⟨hrd, hbf, Hn.out⟩
    have K1 : Kx [gR, gb] w w1 := (Kx.of_kp (Kp.refl w).drew).trans hk1
    clear hrd hbf hat hk1
    cases b
    · go_wp2_with (go_at_call 77; (with_reducible refine (HU.out _ (Hw1.out.kp (by repeat (first | (with_reducible exact Kp.refl _) | (with_reducible assumption) | (with_reducible apply Kp.ext) | (with_reducible apply Kp.alloc) | (with_reducible apply Kp.drew) | (with_reducible apply Kp.drewN) | (with_reducible refine Kp.setCell ?_ (by first | (dsimp only; omega) | (simp; omega) | (simp; done) | (simp [size_ext_eq]; omega)) _))))).mono ?_); rintro e w2 h2; obtain ⟨a, hea, rfl, hk2, hk0⟩ := h2.no; have HE := Lib.hid hea; clear h2 hea)
      refine bodyPost_ret (v := .tuple #[.int .i64 0, .int .u32 0, .int .i64 0, .iface 191 (.pointer (some a))]) (by simp [results, Tryz.results58, go_sem]) rfl ?_
      exact ⟨nofun, fun _ => ⟨a, HE.out, rfl, K1.trans ((Kx.of_kp (by repeat (first | (with_reducible exact Kp.refl _) | (with_reducible assumption) | (with_reducible apply Kp.ext) | (with_reducible apply Kp.alloc) | (with_reducible apply Kp.drew) | (with_reducible apply Kp.drewN) | (with_reducible refine Kp.setCell ?_ (by first | (dsimp only; omega) | (simp; omega) | (simp; done) | (simp [size_ext_eq]; omega)) _)))).trans hk2), hk0⟩⟩
    · go_wp2_with (go_at_call 77; (with_reducible refine (HU.out _ (Hw1.out.kp (by repeat (first | (with_reducible exact Kp.refl _) | (with_reducible assumption) | (with_reducible apply Kp.ext) | (with_reducible apply Kp.alloc) | (with_reducible apply Kp.drew) | (with_reducible apply Kp.drewN) | (with_reducible refine Kp.setCell ?_ (by first | (dsimp only; omega) | (simp; omega) | (simp; done) | (simp [size_ext_eq]; omega)) _))))).mono ?_); rintro e w2 h2; obtain ⟨v, rfl, hrd2, hk2, rfl⟩ := h2.yes; have Hrd2 := Lib.hid hrd2; clear h2 hrd2)
      refine bodyPost_ret (v := .tuple #[.int .i64 0, .int .u32 (k : Int), .int .i64 0, .nilIface]) (by simp [results, Tryz.results58, go_sem]) rfl ?_
      exact ⟨fun _ => ⟨rfl, Hrd2.out.kp (by repeat (first | (with_reducible exact Kp.refl _) | (with_reducible assumption) | (with_reducible apply Kp.ext) | (with_reducible apply Kp.alloc) | (with_reducible apply Kp.drew) | (with_reducible apply Kp.drewN) | (with_reducible refine Kp.setCell ?_ (by first | (dsimp only; omega) | (simp; omega) | (simp; done) | (simp [size_ext_eq]; omega)) _))), K1.trans ((Kx.of_kp (by repeat (first | (with_reducible exact Kp.refl _) | (with_reducible assumption) | (with_reducible apply Kp.ext) | (with_reducible apply Kp.alloc) | (with_reducible apply Kp.drew) | (with_reducible apply Kp.drewN) | (with_reducible refine Kp.setCell ?_ (by first | (dsimp only; omega) | (simp; omega) | (simp; done) | (simp [size_ext_eq]; omega)) _)))).trans (hk2.trans (Kx.of_kp (by repeat (first | (with_reducible exact Kp.refl _) | (with_reducible assumption) | (with_reducible apply Kp.ext) | (with_reducible apply Kp.alloc) | (with_reducible apply Kp.drew) | (with_reducible apply Kp.drewN) | (with_reducible refine Kp.setCell ?_ (by first | (dsimp only; omega) | (simp; omega) | (simp; done) | (simp [size_ext_eq]; omega)) _))))))⟩, nofun⟩

set_option maxRecDepth 20000 in
set_option maxHeartbeats 2000000 in
theorem hdS_c (b : Bool) (w0 w : World) (gR gb k s c : Nat) (hk : k < 16) (hs : s < 4294967296) (big : Bool) (r r2 : List Nat) (hP : PreB b (num32 (k + 536870912) big ++ num32 s big) r r2) (h : RdW w0 w gR gb ([if big then 0 else 1] ++ r2)) (hc : 8 ≤ c) (hG : Gls w0) :
    Calls Tryz.prog 58 #[rdrV gR, .slice (some ⟨gb, 0, none⟩) 8 c] w (RetHd b w0 gR gb k s big r w) := by
  have HR := Lib.hid (fun w' (k : Kp w w') => read_c w0 w' gR gb 8 1 c [if big then 0 else 1] r2 (h.kp k).rd (h.kp k).bf h.ne (by simp) (by rw [List.length_append]; exact (Nat.min_eq_left (by simp)).symm) (by decide))
  have HU1 := Lib.hid (fun b' r' w' (hP' : PreB b' (num32 (k + 536870912) big) r' r2) (h : RdW w0 w' gR gb r2) => readU32_c b' w0 w' gR gb (k + 536870912) c big r' r2 hP' h (by omega) (by omega) hG)
  have HU2 := Lib.hid (fun r3 w' (hP' : PreB b (num32 s big) r r3) (h : RdW w0 w' gR gb r3) => readU32_c b w0 w' gR gb s c big r r3 hP' h hs (by omega) hG)
  have Hn := Lib.hid h.ne
  have e1 : (1 : Int) ≤ (c : Int) := by omega
  have e2 : (4 : Int) ≤ (c : Int) := by omega
  obtain ⟨_, a2⟩ := and_kindS k hk
  have a3 := and_kind2 k hk
  have hst := hP.step
  generalize k + 536870912 = kk at *
  unfold rdrV at HU1 HU2 ⊢
  clear hP h hG
  cases big
  · simp only [Bool.false_eq_true, if_false, if_true] at HR
    unfold ordI at HU1 HU2
    simp only [Bool.false_eq_true, if_false, if_true] at HU1 HU2
    rcases hst with ⟨r3, rfl, hP3⟩ | ⟨rfl, hcut, _⟩
    rotate_left 1
    · go_enter Tryz.func58, Tryz.ntmps58
      go_wp2_with fail
      go_region_held3 (fun _ => True) (trivial) ((go_at_call 117; (with_reducible refine (HR.out _ (show Kp w _ from (by repeat (first | (with_reducible exact Kp.refl _) | (with_reducible assumption) | (with_reducible apply Kp.ext) | (with_reducible apply Kp.alloc) | (with_reducible apply Kp.drew) | (with_reducible apply Kp.drewN) | (with_reducible refine Kp.setCell ?_ (by first | (dsimp only; omega) | (simp; omega) | (simp; done) | (simp [size_ext_eq]; omega)) _))))).mono ?_); rintro e w1 ⟨rfl, hrd, hbf, hat, hk1⟩))
      have c0 := hat.b0
      have hgb := hbf.lt
      have Hw1 : Hid (RdW w0 w1 gR gb r2) := Lib.hid ⟨hrd, hbf, Hn.out⟩
      have K1 : Kx [gR, gb] w w1 := (Kx.of_kp (Kp.refl w).drew).trans hk1
      clear hrd hbf hat hk1
      go_wp2_with (go_at_call 77; (with_reducible refine (HU1.out _ _ _ hcut (Hw1.out.kp (by repeat (first | (with_reducible exact Kp.refl _) | (with_reducible assumption) | (with_reducible apply Kp.ext) | (with_reducible apply Kp.alloc) | (with_reducible apply Kp.drew) | (with_reducible apply Kp.drewN) | (with_reducible refine Kp.setCell ?_ (by first | (dsimp only; omega) | (simp; omega) | (simp; done) | (simp [size_ext_eq]; omega)) _))))).mono ?_); rintro e w2 h2; obtain ⟨a, hea, rfl, hk2, hk0⟩ := h2.no; have HE := Lib.hid hea; clear h2 hea)
      refine bodyPost_ret (v := .tuple #[.int .i64 0, .int .u32 0, .int .i64 0, .iface 191 (.pointer (some a))]) (by simp [results, Tryz.results58, go_sem]) rfl ?_
      exact ⟨nofun, fun _ => ⟨a, HE.out, rfl, K1.trans ((Kx.of_kp (by repeat (first | (with_reducible exact Kp.refl _) | (with_reducible assumption) | (with_reducible apply Kp.ext) | (with_reducible apply Kp.alloc) | (with_reducible apply Kp.drew) | (with_reducible apply Kp.drewN) | (with_reducible refine Kp.setCell ?_ (by first | (dsimp only; omega) | (simp; omega) | (simp; done) | (simp [size_ext_eq]; omega)) _)))).trans hk2), hk0⟩⟩
    have hP1 := PreB.of (num32 kk false) r3
    go_enter Tryz.func58, Tryz.ntmps58
    go_wp2_with fail
    go_region_held3 (fun _ => True) (trivial) ((go_at_call 117; (with_reducible refine (HR.out _ (show Kp w _ from (by repeat (first | (with_reducible exact Kp.refl _) | (with_reducible assumption) | (with_reducible apply Kp.ext) | (with_reducible apply Kp.alloc) | (with_reducible apply Kp.drew) | (with_reducible apply Kp.drewN) | (with_reducible refine Kp.setCell ?_ (by first | (dsimp only; omega) | (simp; omega) | (simp; done) | (simp [size_ext_eq]; omega)) _))))).mono ?_); rintro e w1 ⟨rfl, hrd, hbf, hat, hk1⟩))
    have c0 := hat.b0
    have hgb := hbf.lt
    have Hw1 : Hid (RdW w0 w1 gR gb (num32 kk false ++ r3)) := Lib.hid ⟨hrd, hbf, Hn.out⟩
    have K1 : Kx [gR, gb] w w1 := (Kx.of_kp (Kp.refl w).drew).trans hk1
    clear hrd hbf hat hk1
    cases b
    · go_wp2_with (first | (go_at_call 77; (with_reducible refine (HU1.out _ _ _ hP1 (Hw1.out.kp (by repeat (first | (with_reducible exact Kp.refl _) | (with_reducible assumption) | (with_reducible apply Kp.ext) | (with_reducible apply Kp.alloc) | (with_reducible apply Kp.drew) | (with_reducible apply Kp.drewN) | (with_reducible refine Kp.setCell ?_ (by first | (dsimp only; omega) | (simp; omega) | (simp; done) | (simp [size_ext_eq]; omega)) _))))).mono ?_); rintro e w2 h2; obtain ⟨v, rfl, hrd2, hk2, rfl⟩ := h2.yes; have Hrd2 := Lib.hid hrd2; clear h2 hrd2 hP1) | (go_at_call 77; (with_reducible refine (HU2.out _ _ hP3 (Hrd2.out.kp (by repeat (first | (with_reducible exact Kp.refl _) | (with_reducible assumption) | (with_reducible apply Kp.ext) | (with_reducible apply Kp.alloc) | (with_reducible apply Kp.drew) | (with_reducible apply Kp.drewN) | (with_reducible refine Kp.setCell ?_ (by first | (dsimp only; omega) | (simp; omega) | (simp; done) | (simp [size_ext_eq]; omega)) _))))).mono ?_); rintro e w2 h2; obtain ⟨a, hea, rfl, hk3, hk0⟩ := h2.no; have HE := Lib.hid hea; clear h2 hea))
      refine bodyPost_ret (v := .tuple #[.int .i64 0, .int .u32 0, .int .i64 0, .iface 191 (.pointer (some a))]) (by simp [results, Tryz.results58, go_sem]) rfl ?_
      exact ⟨nofun, fun _ => ⟨a, HE.out, rfl, K1.trans ((Kx.of_kp (by repeat (first | (with_reducible exact Kp.refl _) | (with_reducible assumption) | (with_reducible apply Kp.ext) | (with_reducible apply Kp.alloc) | (with_reducible apply Kp.drew) | (with_reducible apply Kp.drewN) | (with_reducible refine Kp.setCell ?_ (by first | (dsimp only; omega) | (simp; omega) | (simp; done) | (simp [size_ext_eq]; omega)) _)))).trans (hk2.trans ((Kx.of_kp (by repeat (first | (with_reducible exact Kp.refl _) | (with_reducible assumption) | (with_reducible apply Kp.ext) | (with_reducible apply Kp.alloc) | (with_reducible apply Kp.drew) | (with_reducible apply Kp.drewN) | (with_reducible refine Kp.setCell ?_ (by first | (dsimp only; omega) | (simp; omega) | (simp; done) | (simp [size_ext_eq]; omega)) _)))).trans hk3))), hk0⟩⟩
    · go_wp2_with (first | (go_at_call 77; (with_reducible refine (HU1.out _ _ _ hP1 (Hw1.out.kp (by repeat (first | (with_reducible exact Kp.refl _) | (with_reducible assumption) | (with_reducible apply Kp.ext) | (with_reducible apply Kp.alloc) | (with_reducible apply Kp.drew) | (with_reducible apply Kp.drewN) | (with_reducible refine Kp.setCell ?_ (by first | (dsimp only; omega) | (simp; omega) | (simp; done) | (simp [size_ext_eq]; omega)) _))))).mono ?_); rintro e w2 h2; obtain ⟨v, rfl, hrd2, hk2, rfl⟩ := h2.yes; have Hrd2 := Lib.hid hrd2; clear h2 hrd2 hP1) | (go_at_call 77; (with_reducible refine (HU2.out _ _ hP3 (Hrd2.out.kp (by repeat (first | (with_reducible exact Kp.refl _) | (with_reducible assumption) | (with_reducible apply Kp.ext) | (with_reducible apply Kp.alloc) | (with_reducible apply Kp.drew) | (with_reducible apply Kp.drewN) | (with_reducible refine Kp.setCell ?_ (by first | (dsimp only; omega) | (simp; omega) | (simp; done) | (simp [size_ext_eq]; omega)) _))))).mono ?_); rintro e w3 h2; obtain ⟨v, rfl, hrd3, hk3, rfl⟩ := h2.yes; have Hrd3 := Lib.hid hrd3; clear h2 hrd3))
      refine bodyPost_ret (v := .tuple #[.int .i64 1, .int .u32 (k : Int), .int .i64 (s : Int), .nilIface]) (by simp [results, Tryz.results58, go_sem]) rfl ?_
      exact ⟨fun _ => ⟨rfl, Hrd3.out.kp (by repeat (first | (with_reducible exact Kp.refl _) | (with_reducible assumption) | (with_reducible apply Kp.ext) | (with_reducible apply Kp.alloc) | (with_reducible apply Kp.drew) | (with_reducible apply Kp.drewN) | (with_reducible refine Kp.setCell ?_ (by first | (dsimp only; omega) | (simp; omega) | (simp; done) | (simp [size_ext_eq]; omega)) _))), K1.trans ((Kx.of_kp (by repeat (first | (with_reducible exact Kp.refl _) | (with_reducible assumption) | (with_reducible apply Kp.ext) | (with_reducible apply Kp.alloc) | (with_reducible apply Kp.drew) | (with_reducible apply Kp.drewN) | (with_reducible refine Kp.setCell ?_ (by first | (dsimp only; omega) | (simp; omega) | (simp; done) | (simp [size_ext_eq]; omega)) _)))).trans (hk2.trans ((Kx.of_kp (by repeat (first | (with_reducible exact Kp.refl _) | (with_reducible assumption) | (with_reducible apply Kp.ext) | (with_reducible apply Kp.alloc) | (with_reducible apply Kp.drew) | (with_reducible apply Kp.drewN) | (with_reducible refine Kp.setCell ?_ (by first | (dsimp only; omega) | (simp; omega) | (simp; done) | (simp [size_ext_eq]; omega)) _)))).trans (hk3.trans (Kx.of_kp (by repeat (first | (with_reducible exact Kp.refl _) | (with_reducible assumption) | (with_reducible apply Kp.ext) | (with_reducible apply Kp.alloc) | (with_reducible apply Kp.drew) | (with_reducible apply Kp.drewN) | (with_reducible refine Kp.setCell ?_ (by first | (dsimp only; omega) | (simp; omega) | (simp; done) | (simp [size_ext_eq]; omega)) _))))))))⟩, nofun⟩
  · simp only [Bool.false_eq_true, if_false, if_true] at HR
    unfold ordI at HU1 HU2
    simp only [Bool.false_eq_true, if_false, if_true] at HU1 HU2
    rcases hst with ⟨r3, rfl, hP3⟩ | ⟨rfl, hcut, _⟩
    rotate_left 1
    · go_enter Tryz.func58, Tryz.ntmps58
      go_wp2_with fail
      go_region_held3 (fun _ => True) (trivial) ((go_at_call 117; (with_reducible refine (HR.out _ (show Kp w _ from (by repeat (first | (with_reducible exact Kp.refl _) | (with_reducible assumption) | (with_reducible apply Kp.ext) | (with_reducible apply Kp.alloc) | (with_reducible apply Kp.drew) | (with_reducible apply Kp.drewN) | (with_reducible refine Kp.setCell ?_ (by first | (dsimp only; omega) | (simp; omega) | (simp; done) | (simp [size_ext_eq]; omega)) _))))).mono ?_); rintro e w1 ⟨rfl, hrd, hbf, hat, hk1⟩))
      have c0 := hat.b0
      have hgb := hbf.lt
      have Hw1 : Hid (RdW w0 w1 gR gb r2) := Lib.hid ⟨hrd, hbf, Hn.out⟩
      have K1 : Kx [gR, gb] w w1 := (Kx.of_kp (Kp.refl w).drew).trans hk1
      clear hrd hbf hat hk1
      go_wp2_with (go_at_call 77; (with_reducible refine (HU1.out _ _ _ hcut (Hw1.out.kp (by repeat (first | (with_reducible exact Kp.refl _) | (with_reducible assumption) | (with_reducible apply Kp.ext) | (with_reducible apply Kp.alloc) | (with_reducible apply Kp.drew) | (with_reducible apply Kp.drewN) | (with_reducible refine Kp.setCell ?_ (by first | (dsimp only; omega) | (simp; omega) | (simp; done) | (simp [size_ext_eq]; omega)) _))))).mono ?_); rintro e w2 h2; obtain ⟨a, hea, rfl, hk2, hk0⟩ := h2.no; have HE := Lib.hid hea; clear h2 hea)
      refine bodyPost_ret (v := .tuple #[.int .i64 0, .int .u32 0, .int .i64 0, .iface 191 (.pointer (some a))]) (by simp [results, Tryz.results58, go_sem]) rfl ?_
      exact ⟨nofun, fun _ => ⟨a, HE.out, rfl, K1.trans ((Kx.of_kp (by repeat (first | (with_reducible exact Kp.refl _) | (with_reducible assumption) | (with_reducible apply Kp.ext) | (with_reducible apply Kp.alloc) | (with_reducible apply Kp.drew) | (with_reducible apply Kp.drewN) | (with_reducible refine Kp.setCell ?_ (by first | (dsimp only; omega) | (simp; omega) | (simp; done) | (simp [size_ext_eq]; omega)) _)))).trans hk2), hk0⟩⟩
    have hP1 := PreB.of (num32 kk true) r3
    go_enter Tryz.func58, Tryz.ntmps58
    go_wp2_with fail
    go_region_held3 (fun _ => True) (trivial) ((go_at_call 117; (with_reducible refine (HR.out _ (show Kp w _ from (by repeat (first | (with_reducible exact Kp.refl _) | (with_reducible assumption) | (with_reducible apply Kp.ext) | (with_reducible apply Kp.alloc) | (with_reducible apply Kp.drew) | (with_reducible apply Kp.drewN) | (with_reducible refine Kp.setCell ?_ (by first | (dsimp only; omega) | (simp; omega) | (simp; done) | (simp [size_ext_eq]; omega)) _))))).mono ?_); rintro e w1 ⟨rfl, hrd, hbf, hat, hk1⟩))
    have c0 := hat.b0
    have hgb := hbf.lt
    have Hw1 : Hid (RdW w0 w1 gR gb (num32 kk true ++ r3)) := Lib.hid ⟨hrd, hbf, Hn.out⟩
    have K1 : Kx [gR, gb] w w1 := (Kx.of_kp (Kp.refl w).drew).trans hk1
    clear hrd hbf hat hk1
    cases b
    · go_wp2_with (first | (go_at_call 77; (with_reducible refine (HU1.out _ _ _ hP1 (Hw1.out.kp (by repeat (first | (with_reducible exact Kp.refl _) | (with_reducible assumption) | (with_reducible apply Kp.ext) | (with_reducible apply Kp.alloc) | (with_reducible apply Kp.drew) | (with_reducible apply Kp.drewN) | (with_reducible refine Kp.setCell ?_ (by first | (dsimp only; omega) | (simp; omega) | (simp; done) | (simp [size_ext_eq]; omega)) _))))).mono ?_); rintro e w2 h2; obtain ⟨v, rfl, hrd2, hk2, rfl⟩ := h2.yes; have Hrd2 := Lib.hid hrd2; clear h2 hrd2 hP1) | (go_at_call 77; (with_reducible refine (HU2.out _ _ hP3 (Hrd2.out.kp (by repeat (first | (with_reducible exact Kp.refl _) | (with_reducible assumption) | (with_reducible apply Kp.ext) | (with_reducible apply Kp.alloc) | (with_reducible apply Kp.drew) | (with_reducible apply Kp.drewN) | (with_reducible refine Kp.setCell ?_ (by first | (dsimp only; omega) | (simp; omega) | (simp; done) | (simp [size_ext_eq]; omega)) _))))).mono ?_); rintro e w2 h2; obtain ⟨a, hea, rfl, hk3, hk0⟩ := h2.no; have HE := Lib.hid hea; clear h2 hea))
      refine bodyPost_ret (v := .tuple #[.int .i64 0, .int .u32 0, .int .i64 0, .iface 191 (.pointer (some a))]) (by simp [results, Tryz.results58, go_sem]) rfl ?_
      exact ⟨nofun, fun _ => ⟨a, HE.out, rfl, K1.trans ((Kx.of_kp (by repeat (first | (with_reducible exact Kp.refl _) | (with_reducible assumption) | (with_reducible apply Kp.ext) | (with_reducible apply Kp.alloc) | (with_reducible apply Kp.drew) | (with_reducible apply Kp.drewN) | (with_reducible refine Kp.setCell ?_ (by first | (dsimp only; omega) | (simp; omega) | (simp; done) | (simp [size_ext_eq]; omega)) _)))).trans (hk2.trans ((Kx.of_kp (by repeat (first | (with_reducible exact Kp.refl _) | (with_reducible assumption) | (with_reducible apply Kp.ext) | (with_reducible apply Kp.alloc) | (with_reducible apply Kp.drew) | (with_reducible apply Kp.drewN) | (with_reducible refine Kp.setCell ?_ (by first | (dsimp only; omega) | (simp; omega) | (simp; done) | (simp [size_ext_eq]; omega)) _)))).trans hk3))), hk0⟩⟩
    · go_wp2_with (first | (go_at_call 77; (with_reducible refine (HU1.out _ _ _ hP1 (Hw1.out.kp (by repeat (first | (with_reducible exact Kp.refl _) | (with_reducible assumption) | (with_reducible apply Kp.ext) | (with_reducible apply Kp.alloc) | (with_reducible apply Kp.drew) | (with_reducible apply Kp.drewN) | (with_reducible refine Kp.setCell ?_ (by first | (dsimp only; omega) | (simp; omega) | (simp; done) | (simp [size_ext_eq]; omega)) _))))).mono ?_); rintro e w2 h2; obtain ⟨v, rfl, hrd2, hk2, rfl⟩ := h2.yes; have Hrd2 := Lib.hid hrd2; clear h2 hrd2 hP1) | (go_at_call 77; (with_reducible refine (HU2.out _ _ hP3 (Hrd2.out.kp (by repeat (first | (with_reducible exact Kp.refl _) | (with_reducible assumption) | (with_reducible apply Kp.ext) | (with_reducible apply Kp.alloc) | (with_reducible apply Kp.drew) | (with_reducible apply Kp.drewN) | (with_reducible refine Kp.setCell ?_ (by first | (dsimp only; omega) | (simp; omega) | (simp; done) | (simp [size_ext_eq]; omega)) _))))).mono ?_); rintro e w3 h2; obtain ⟨v, rfl, hrd3, hk3, rfl⟩ := h2.yes; have Hrd3 := Lib.hid hrd3; clear h2 hrd3))
      refine bodyPost_ret (v := .tuple #[.int .i64 0, .int .u32 (k : Int), .int .i64 (s : Int), .nilIface]) (by simp [results, Tryz.results58, go_sem]) rfl ?_
      exact ⟨fun _ => ⟨rfl, Hrd3.out.kp (by repeat (first | (with_reducible exact Kp.refl _) | (with_reducible assumption) | (with_reducible apply Kp.ext) | (with_reducible apply Kp.alloc) | (with_reducible apply Kp.drew) | (with_reducible apply Kp.drewN) | (with_reducible refine Kp.setCell ?_ (by first | (dsimp only; omega) | (simp; omega) | (simp; done) | (simp [size_ext_eq]; omega)) _))), K1.trans ((Kx.of_kp (by repeat (first | (with_reducible exact Kp.refl _) | (with_reducible assumption) | (with_reducible apply Kp.ext) | (with_reducible apply Kp.alloc) | (with_reducible apply Kp.drew) | (with_reducible apply Kp.drewN) | (with_reducible refine Kp.setCell ?_ (by first | (dsimp only; omega) | (simp; omega) | (simp; done) | (simp [size_ext_eq]; omega)) _)))).trans (hk2.trans ((Kx.of_kp (by repeat (first | (with_reducible exact Kp.refl _) | (with_reducible assumption) | (with_reducible apply Kp.ext) | (with_reducible apply Kp.alloc) | (with_reducible apply Kp.drew) | (with_reducible apply Kp.drewN) | (with_reducible refine Kp.setCell ?_ (by first | (dsimp only; omega) | (simp; omega) | (simp; done) | (simp [size_ext_eq]; omega)) _)))).trans (hk3.trans (Kx.of_kp (by repeat (first | (with_reducible exact Kp.refl _) | (with_reducible assumption) | (with_reducible apply Kp.ext) | (with_reducible apply Kp.alloc) | (with_reducible apply Kp.drew) | (with_reducible apply Kp.drewN) | (with_reducible refine Kp.setCell ?_ (by first | (dsimp only; omega) | (simp; omega) | (simp; done) | (simp [size_ext_eq]; omega)) _))))))))⟩, nofun⟩
theorem readHd_c (b : Bool) (w0 w : World) (gR gb k s c : Nat) (hk : k < 16) (hs : s < 4294967296) (big : Bool) (r bs : List Nat) (hP : PreB b (headB k s big) r bs) (h : RdW w0 w gR gb bs) (hc : 8 ≤ c) (hG : Gls w0) :
    Calls Tryz.prog 58 #[rdrV gR, .slice (some ⟨gb, 0, none⟩) 8 c] w (RetHd b w0 gR gb k s big r w) := by
  rw [headB_cons] at hP
  rcases hP.step with ⟨r2, rfl, hP2⟩ | ⟨rfl, _, hl⟩
  · by_cases h0 : s = 0
    · subst h0
      rw [if_pos rfl] at hP2
      exact hd0_c b w0 w gR gb k c hk big r r2 hP2 h hc hG
    · rw [if_neg h0] at hP2
      exact hdS_c b w0 w gR gb k s c hk hs big r r2 hP2 h hc hG
  · obtain rfl : bs = [] := List.eq_nil_of_length_eq_zero (by simp at hl; simpa using hl)
    exact hdEnd_c w0 w gR gb k s c big r h hc hG
end Go.Proofs.YtobdohhabgnjiaaGreatDoor

set_option linter.all false
namespace Go.Proofs.YtobdohhabgnjiaaGreatDoor
open PubFl Go.RowKit

attribute [local go_sem] cell_ext frozen_ext ext_setCell cell_store size_ext_eq lt_p0 lt_p1 lt_p2 lt_p3 lt_p4 lt_p5 lt_p6 lt_p7 lt_p8 lt_p9 lt_p10 lt_p11 lt_p12 lt_p13 lt_p14 lt_p15 lt_p16 lt_p17 lt_p18 lt_p19 lt_p20 lt_p21 lt_p22 lt_p23 lt_p24 lt_p25 lt_p26 lt_p27 lt_p28 lt_p29 lt_p30 lt_p31 lt_p32 lt_q1 lt_q2 lt_q3 lt_q4 lt_q5 lt_q6 lt_q7 lt_q8 lt_q9 lt_q10 lt_q11 lt_q12 lt_q13 lt_q14 lt_q15 lt_q16 lt_q17 lt_q18 lt_q19 lt_q20 lt_q21 lt_q22 lt_q23 lt_q24 lt_q25 lt_q26 lt_q27 lt_q28 lt_q29 lt_q30 lt_q31 lt_q32 run_fop run_store_float
attribute [local go_sem high] cmp_eql cmp_neq cmp_lss cmp_leq cmp_gtr cmp_geq
attribute [local go_sem] x_bits x_frombits

/-- a point in block P + 1, and room for one in block P -/
structure PtAt (w : World) (P u v : Nat) : Prop where
  c0 : w.cell? ⟨P + 1, 0, none⟩ = some (.float .f64 u)
  c1 : w.cell? ⟨P + 1, 1, none⟩ = some (.float .f64 v)
  fz : ∀ j, w.frozen? ⟨P + 1, j, none⟩ = false
  r0 : ∃ x, w.cell? ⟨P, 0, none⟩ = some x
  r1 : ∃ x, w.cell? ⟨P, 1, none⟩ = some x
  rz : ∀ j, w.frozen? ⟨P, j, none⟩ = false
  lt : P + 1 < w.heap.size
theorem PtAt.kx {S : List Nat} {w w' : World} {P u v : Nat} (h : PtAt w P u v) (k : Kx S w w') (hs : ∀ b ∈ S, b < P) : PtAt w' P u v := by
  have n0 : P ∉ S := fun c => by have := hs _ c; omega
  have n1 : P + 1 ∉ S := fun c => by have := hs _ c; omega
  have l1 := h.lt
  have l0 : P < w.heap.size := by omega
  obtain ⟨a1, a2, a3, ⟨x, a4⟩, ⟨y, a5⟩, a6, a7⟩ := h
  exact ⟨(k.cell l1 n1).trans a1, (k.cell l1 n1).trans a2, fun j => (k.frozen l1 n1).trans (a3 j), ⟨x, (k.cell l0 n0).trans a4⟩, ⟨y, (k.cell l0 n0).trans a5⟩, fun j => (k.frozen l0 n0).trans (a6 j), Nat.lt_of_lt_of_le a7 k.size⟩
theorem PtAt.kp {w w' : World} {P u v : Nat} (h : PtAt w P u v) (k : Kp w w') : PtAt w' P u v := h.kx (S := []) (Kx.of_kp k) (by simp)
theorem PtAt.set0 {w : World} {P u v x : Nat} (h : PtAt w P u v) : PtAt (w.setCell ⟨P + 1, 0, none⟩ (.float .f64 x)) P x v := by
  obtain ⟨a1, a2, a3, ⟨x', a4⟩, ⟨y', a5⟩, a6, a7⟩ := h
  exact ⟨World.cell?_setCell_same _ _ _ a1, (World.cell?_setCell_other _ _ _ _ (by simp)).trans a2, fun j => by simpa using a3 j, ⟨x', (World.cell?_setCell_other _ _ _ _ (by simp)).trans a4⟩, ⟨y', (World.cell?_setCell_other _ _ _ _ (by simp)).trans a5⟩, fun j => by simpa using a6 j, by simpa using a7⟩
theorem PtAt.set1 {w : World} {P u v x : Nat} (h : PtAt w P u v) : PtAt (w.setCell ⟨P + 1, 1, none⟩ (.float .f64 x)) P u x := by
  obtain ⟨a1, a2, a3, ⟨x', a4⟩, ⟨y', a5⟩, a6, a7⟩ := h
  exact ⟨(World.cell?_setCell_other _ _ _ _ (by simp)).trans a1, World.cell?_setCell_same _ _ _ a2, fun j => by simpa using a3 j, ⟨x', (World.cell?_setCell_other _ _ _ _ (by simp)).trans a4⟩, ⟨y', (World.cell?_setCell_other _ _ _ _ (by simp)).trans a5⟩, fun j => by simpa using a6 j, by simpa using a7⟩
/-- a world that has changed blocks of its own alone, besides -/
theorem Kx.new {S : List Nat} {w w' : World} (h : Kx S w w') {g : Nat} (hg : w.heap.size ≤ g) (o : Nat) (v : Value) : Kx S w (w'.setCell ⟨g, o, none⟩ v) :=
  ⟨h.os, h.tape, h.output, by simpa using h.size, fun b hb hn => (Below.heap_setCell _ _ _ _ (fun e => by dsimp only at e; omega)).trans (h.block b hb hn)⟩
theorem ErrA.set {w : World} {a : Addr} (h : ErrA w a) (g o : Nat) (v : Value) : ErrA (w.setCell ⟨g, o, none⟩ v) a := by
  obtain ⟨h1, c, t, h2⟩ := h
  refine ⟨by simpa using h1, ?_⟩
  unfold World.setCell
  simp only [Array.getElem?_modify]
  by_cases e : g = a.block
  · rw [if_pos e, h2]
    exact ⟨c.setIfInBounds o v, t, rfl⟩
  · rw [if_neg e]
    exact ⟨c, t, h2⟩
def LoopP (b : Bool) (w0 : World) (gR gb x y : Nat) (F2 r bs : List Nat) (w : World) (s9 : Value) (wr : World) : Prop :=
  ∃ (rest : List Nat) (u v : Nat), RdW w0 wr gR gb rest ∧ Kx [gR, gb] w wr ∧ PtAt wr w.heap.size u v ∧
    ((s9 = .int .i64 0 ∧ u = 0 ∧ v = 0 ∧ rest = bs) ∨ (s9 = .int .i64 1 ∧ u = x ∧ v = 0 ∧ PreB b F2 r rest) ∨ (s9 = .int .i64 2 ∧ u = x ∧ v = y ∧ b = true ∧ rest = r))
theorem RdW.set {w0 w : World} {gR gb g : Nat} {bs : List Nat} (h : RdW w0 w gR gb bs) (hg : w0.heap.size ≤ g) (n1 : g ≠ gR) (n2 : g ≠ gb) (o : Nat) (v : Value) : RdW w0 (w.setCell ⟨g, o, none⟩ v) gR gb bs :=
  have k : Kx [g] w (w.setCell ⟨g, o, none⟩ v) := (Kx.refl [g] w).setCell (by simp) o v
  ⟨h.rd.kx k (by simpa using fun e : gR = g => n1 e.symm) (by simpa using hg), h.bf.kx k (by simpa using fun e : gb = g => n2 e.symm), h.ne⟩

set_option maxRecDepth 20000 in
set_option maxHeartbeats 4000000 in
theorem readPoint_c (b : Bool) (w0 w : World) (gR gb x y c : Nat) (hx : x < 2 ^ 64) (hy : y < 2 ^ 64) (big : Bool) (r bs : List Nat) (hP : PreB b (num64 x big ++ num64 y big) r bs) (h : RdW w0 w gR gb bs) (hc : 8 ≤ c) (hG : Gls w0) :
    Calls Tryz.prog 59 #[rdrV gR, .int .i64 (ordI big), .slice (some ⟨gb, 0, none⟩) 8 c] w (RetRd b w0 gR gb r w (fun _ v => v = .agg #[.float .f64 x, .float .f64 y]) (.agg #[.float .f64 0, .float .f64 0])) := by
  have HR := Lib.hid (fun b' F r' bs' w' (hl : F.length = 8) (hP : PreB b' F r' bs') (h : RdW w0 w' gR gb bs') => readFull_c b' w0 w' gR gb 8 c F r' bs' hP h (by decide) (by decide) hc hl hG)
  have HP := Lib.hid hP
  have H0 := Lib.hid h
  have hgR := h.rd.lt
  have hgb := h.bf.lt
  have hg0 := h.rd.ge
  have hgw := h.rd.kp.size
  have l1 := num64_length x big
  have l2 := num64_length y big
  have HE := Lib.hid (fun n (hn : n < 2 ^ 64) w' hg hat => le64_c n hn gb 0 8 c (Nat.le_refl _) hc w' hg hat)
  have HB := Lib.hid (fun n (hn : n < 2 ^ 64) w' hg hat => be64_c n hn gb 0 8 c (Nat.le_refl _) hc w' hg hat)
  have hs : ∀ b ∈ [gR, gb], b < w.heap.size := by simp [hgR, hgb]
  have Hs := Lib.hid hs
  have L1 := Lib.hid l1
  have L2 := Lib.hid l2
  unfold rdrV at HR ⊢
  clear hP h l1 l2 hs
  cases big
  · show Calls Tryz.prog 59 #[_, .int .i64 1, _] w _
    go_enter Tryz.func59, Tryz.ntmps59
    go_wp2_with fail
    go_loopw [9] (fun s9 wr => LoopP b w0 gR gb x y (num64 y false) r bs w s9 wr) (fun s9 _ => 2 - (intOf s9).toNat)
    case atStart => exact ⟨bs, 0, 0, H0.out.kp (by repeat (first | (with_reducible exact Kp.refl _) | (with_reducible assumption) | (with_reducible apply Kp.ext) | (with_reducible apply Kp.alloc) | (with_reducible apply Kp.drew) | (with_reducible apply Kp.drewN) | (with_reducible refine Kp.setCell ?_ (by first | (dsimp only; omega) | (simp; omega) | (simp; done) | (simp [size_ext_eq]; omega)) _))), Kx.of_kp (by repeat (first | (with_reducible exact Kp.refl _) | (with_reducible assumption) | (with_reducible apply Kp.ext) | (with_reducible apply Kp.alloc) | (with_reducible apply Kp.drew) | (with_reducible apply Kp.drewN) | (with_reducible refine Kp.setCell ?_ (by first | (dsimp only; omega) | (simp; omega) | (simp; done) | (simp [size_ext_eq]; omega)) _))), ⟨by simp, by simp, fun j => by simp [go_sem], ⟨_, by simp; rfl⟩, ⟨_, by simp; rfl⟩, fun j => by simp [go_sem], by simp⟩, .inl ⟨rfl, rfl, rfl, rfl⟩⟩
    case round =>
      obtain ⟨rest, u, v, hrd, hk, hpt, hrel⟩ := hrel
      have hsz := hk.size
      rcases hrel with ⟨rfl, rfl, rfl, rfl⟩ | ⟨rfl, hu, rfl, hP2⟩ | ⟨rfl, hu, hv, rfl, rfl⟩
      · have q0 := hpt.c0
        have q1 := hpt.c1
        have q2 := hpt.fz
        rcases HP.out.step with ⟨r2, rfl, hP2⟩ | ⟨rfl, hcut, _⟩
        · have HX := Lib.hid (HR.out true _ _ _ wr L1.out (PreB.of (num64 x false) r2) hrd)
          have HY := Lib.hid hP2
          clear hP2 q0 q1 q2
          go_wp2_with (first | (go_at_call 78; (with_reducible refine (HX.out).mono ?_); rintro e w2 h1; obtain ⟨rfl, hrd2, hat, hk2⟩ := h1.yes; rw [L1.out]; have Hrd2 := Lib.hid hrd2; have Hat := Lib.hid hat; have hpt2 := hpt.kx hk2 Hs.out; have Hpt2 := Lib.hid hpt2; have q0 := hpt2.c0; have q2 := hpt2.fz 0; have q3 := hpt2.lt; have hgb2 := hrd2.bf.lt; clear h1 hrd2 hat hpt2) | (go_at_call 80; (first | (with_reducible refine (Ret.at_ext (HE.out x hx _ hgb2 Hat.out)).mono ?_) | (with_reducible refine (HE.out x hx _ hgb2 Hat.out).mono ?_)); rintro e w' ⟨rfl, u, rfl⟩))
          go_roundw
          case rel => exact ⟨r2, x, 0, (Hrd2.out.set (g := w.heap.size + 1) (by omega) (by omega) (by omega) 0 (.float .f64 x)).kp (by repeat (first | (with_reducible exact Kp.refl _) | (with_reducible assumption) | (with_reducible apply Kp.ext) | (with_reducible apply Kp.alloc) | (with_reducible apply Kp.drew) | (with_reducible apply Kp.drewN) | (with_reducible refine Kp.setCell ?_ (by first | (dsimp only; omega) | (simp; omega) | (simp; done) | (simp [size_ext_eq]; omega)) _))), ((hk.trans hk2).new (g := w.heap.size + 1) (by omega) 0 (.float .f64 x)).trans (Kx.of_kp (by repeat (first | (with_reducible exact Kp.refl _) | (with_reducible assumption) | (with_reducible apply Kp.ext) | (with_reducible apply Kp.alloc) | (with_reducible apply Kp.drew) | (with_reducible apply Kp.drewN) | (with_reducible refine Kp.setCell ?_ (by first | (dsimp only; omega) | (simp; omega) | (simp; done) | (simp [size_ext_eq]; omega)) _)))), Hpt2.out.set0.kp (by repeat (first | (with_reducible exact Kp.refl _) | (with_reducible assumption) | (with_reducible apply Kp.ext) | (with_reducible apply Kp.alloc) | (with_reducible apply Kp.drew) | (with_reducible apply Kp.drewN) | (with_reducible refine Kp.setCell ?_ (by first | (dsimp only; omega) | (simp; omega) | (simp; done) | (simp [size_ext_eq]; omega)) _))), .inr (.inl ⟨rfl, rfl, rfl, HY.out⟩)⟩
          case measure => simp [intOf]
        · have HX := Lib.hid (HR.out false _ [] _ wr L1.out hcut hrd)
          have r0 := hpt.r0
          have r1 := hpt.r1
          have rz0 := hpt.rz 0
          have rz1 := hpt.rz 1
          have Hpt := Lib.hid hpt
          clear q0 q1 q2 r0 r1 rz0 rz1 hpt
          go_wp2_with (go_at_call 78; (with_reducible refine (HX.out).mono ?_); rintro e w2 h1; obtain ⟨a, n, hea, rfl, hk2, hk0⟩ := h1.no; have HE := Lib.hid hea; have hpt2 := Hpt.out.kx hk2 Hs.out; obtain ⟨x0, r0⟩ := hpt2.r0; obtain ⟨x1, r1⟩ := hpt2.r1; have z0 := hpt2.rz 0; have z1 := hpt2.rz 1; clear h1 hea hpt2)
          refine bodyPost_ret (v := .tuple #[.agg #[.float .f64 0, .float .f64 0], .iface 191 (.pointer (some a))]) (by simp [results, Tryz.results59, go_sem, r0, r1]) rfl ?_
          exact .mk0 ((ErrA.set HE.out _ 0 _).set _ 1 _) (((hk.trans hk2).new (g := w.heap.size) (by omega) 0 _).new (g := w.heap.size) (by omega) 1 _) ((hk0.setCell (by simpa using hgw) _).setCell (by simpa using hgw) _)
      · replace hu := hu.symm
        subst hu
        have q0 := hpt.c0
        have q1 := hpt.c1
        have q2 := hpt.fz
        cases b
        · have HX := Lib.hid (HR.out false _ r _ wr L2.out hP2 hrd)
          have Hpt := Lib.hid hpt
          clear q0 q1 q2 hpt
          go_wp2_with (go_at_call 78; (with_reducible refine (HX.out).mono ?_); rintro e w2 h1; obtain ⟨a, n, hea, rfl, hk2, hk0⟩ := h1.no; have HE := Lib.hid hea; have hpt2 := Hpt.out.kx hk2 Hs.out; obtain ⟨x0, r0⟩ := hpt2.r0; obtain ⟨x1, r1⟩ := hpt2.r1; have z0 := hpt2.rz 0; have z1 := hpt2.rz 1; clear h1 hea hpt2)
          refine bodyPost_ret (v := .tuple #[.agg #[.float .f64 0, .float .f64 0], .iface 191 (.pointer (some a))]) (by simp [results, Tryz.results59, go_sem, r0, r1]) rfl ?_
          exact .mk0 ((ErrA.set HE.out _ 0 _).set _ 1 _) (((hk.trans hk2).new (g := w.heap.size) (by omega) 0 _).new (g := w.heap.size) (by omega) 1 _) ((hk0.setCell (by simpa using hgw) _).setCell (by simpa using hgw) _)
        · obtain rfl := hP2.whole
          have HX := Lib.hid (HR.out true _ _ _ wr L2.out (PreB.of (num64 y false) r) hrd)
          clear q0 q1 q2 hP2
          go_wp2_with (first | (go_at_call 78; (with_reducible refine (HX.out).mono ?_); rintro e w2 h1; obtain ⟨rfl, hrd2, hat, hk2⟩ := h1.yes; rw [L2.out]; have Hrd2 := Lib.hid hrd2; have Hat := Lib.hid hat; have hpt2 := hpt.kx hk2 Hs.out; have Hpt2 := Lib.hid hpt2; have q0 := hpt2.c1; have q2 := hpt2.fz 1; have q3 := hpt2.lt; have hgb2 := hrd2.bf.lt; clear h1 hrd2 hat hpt2) | (go_at_call 80; (first | (with_reducible refine (Ret.at_ext (HE.out y hy _ hgb2 Hat.out)).mono ?_) | (with_reducible refine (HE.out y hy _ hgb2 Hat.out).mono ?_)); rintro e w' ⟨rfl, u, rfl⟩))
          go_roundw
          case rel => exact ⟨r, x, y, (Hrd2.out.set (g := w.heap.size + 1) (by omega) (by omega) (by omega) 1 (.float .f64 y)).kp (by repeat (first | (with_reducible exact Kp.refl _) | (with_reducible assumption) | (with_reducible apply Kp.ext) | (with_reducible apply Kp.alloc) | (with_reducible apply Kp.drew) | (with_reducible apply Kp.drewN) | (with_reducible refine Kp.setCell ?_ (by first | (dsimp only; omega) | (simp; omega) | (simp; done) | (simp [size_ext_eq]; omega)) _))), ((hk.trans hk2).new (g := w.heap.size + 1) (by omega) 1 (.float .f64 y)).trans (Kx.of_kp (by repeat (first | (with_reducible exact Kp.refl _) | (with_reducible assumption) | (with_reducible apply Kp.ext) | (with_reducible apply Kp.alloc) | (with_reducible apply Kp.drew) | (with_reducible apply Kp.drewN) | (with_reducible refine Kp.setCell ?_ (by first | (dsimp only; omega) | (simp; omega) | (simp; done) | (simp [size_ext_eq]; omega)) _)))), Hpt2.out.set1.kp (by repeat (first | (with_reducible exact Kp.refl _) | (with_reducible assumption) | (with_reducible apply Kp.ext) | (with_reducible apply Kp.alloc) | (with_reducible apply Kp.drew) | (with_reducible apply Kp.drewN) | (with_reducible refine Kp.setCell ?_ (by first | (dsimp only; omega) | (simp; omega) | (simp; done) | (simp [size_ext_eq]; omega)) _))), .inr (.inr ⟨rfl, rfl, rfl, rfl, rfl⟩)⟩
          case measure => simp [intOf]
      · replace hu := hu.symm
        subst hu
        replace hv := hv.symm
        subst hv
        have q0 := hpt.c0
        have q1 := hpt.c1
        obtain ⟨x0, r0⟩ := hpt.r0
        obtain ⟨x1, r1⟩ := hpt.r1
        have z0 := hpt.rz 0
        have z1 := hpt.rz 1
        have q3 := hpt.lt
        have q4 : w.heap.size < wr.heap.size := by omega
        have Hrd := Lib.hid hrd
        clear hpt hrd
        go_wp2_with fail
        refine bodyPost_ret (v := .tuple #[.agg #[.float .f64 x, .float .f64 y], .nilIface]) (by simp [results, Tryz.results59, go_sem, r0, r1]) rfl ?_
        exact .mk1 ((Hrd.out.set (g := w.heap.size) (by omega) (by omega) (by omega) 0 _).set (g := w.heap.size) (by omega) (by omega) (by omega) 1 _) ((hk.new (g := w.heap.size) (by omega) 0 _).new (g := w.heap.size) (by omega) 1 _) rfl
  · show Calls Tryz.prog 59 #[_, .int .i64 0, _] w _
    go_enter Tryz.func59, Tryz.ntmps59
    go_wp2_with fail
    go_loopw [9] (fun s9 wr => LoopP b w0 gR gb x y (num64 y true) r bs w s9 wr) (fun s9 _ => 2 - (intOf s9).toNat)
    case atStart => exact ⟨bs, 0, 0, H0.out.kp (by repeat (first | (with_reducible exact Kp.refl _) | (with_reducible assumption) | (with_reducible apply Kp.ext) | (with_reducible apply Kp.alloc) | (with_reducible apply Kp.drew) | (with_reducible apply Kp.drewN) | (with_reducible refine Kp.setCell ?_ (by first | (dsimp only; omega) | (simp; omega) | (simp; done) | (simp [size_ext_eq]; omega)) _))), Kx.of_kp (by repeat (first | (with_reducible exact Kp.refl _) | (with_reducible assumption) | (with_reducible apply Kp.ext) | (with_reducible apply Kp.alloc) | (with_reducible apply Kp.drew) | (with_reducible apply Kp.drewN) | (with_reducible refine Kp.setCell ?_ (by first | (dsimp only; omega) | (simp; omega) | (simp; done) | (simp [size_ext_eq]; omega)) _))), ⟨by simp, by simp, fun j => by simp [go_sem], ⟨_, by simp; rfl⟩, ⟨_, by simp; rfl⟩, fun j => by simp [go_sem], by simp⟩, .inl ⟨rfl, rfl, rfl, rfl⟩⟩
    case round =>
      obtain ⟨rest, u, v, hrd, hk, hpt, hrel⟩ := hrel
      have hsz := hk.size
      rcases hrel with ⟨rfl, rfl, rfl, rfl⟩ | ⟨rfl, hu, rfl, hP2⟩ | ⟨rfl, hu, hv, rfl, rfl⟩
      · have q0 := hpt.c0
        have q1 := hpt.c1
        have q2 := hpt.fz
        rcases HP.out.step with ⟨r2, rfl, hP2⟩ | ⟨rfl, hcut, _⟩
        · have HX := Lib.hid (HR.out true _ _ _ wr L1.out (PreB.of (num64 x true) r2) hrd)
          have HY := Lib.hid hP2
          clear hP2 q0 q1 q2
          go_wp2_with (first | (go_at_call 78; (with_reducible refine (HX.out).mono ?_); rintro e w2 h1; obtain ⟨rfl, hrd2, hat, hk2⟩ := h1.yes; rw [L1.out]; have Hrd2 := Lib.hid hrd2; have Hat := Lib.hid hat; have hpt2 := hpt.kx hk2 Hs.out; have Hpt2 := Lib.hid hpt2; have q0 := hpt2.c0; have q2 := hpt2.fz 0; have q3 := hpt2.lt; have hgb2 := hrd2.bf.lt; clear h1 hrd2 hat hpt2) | (go_at_call 81; (first | (with_reducible refine (Ret.at_ext (HB.out x hx _ hgb2 Hat.out)).mono ?_) | (with_reducible refine (HB.out x hx _ hgb2 Hat.out).mono ?_)); rintro e w' ⟨rfl, u, rfl⟩))
          go_roundw
          case rel => exact ⟨r2, x, 0, (Hrd2.out.set (g := w.heap.size + 1) (by omega) (by omega) (by omega) 0 (.float .f64 x)).kp (by repeat (first | (with_reducible exact Kp.refl _) | (with_reducible assumption) | (with_reducible apply Kp.ext) | (with_reducible apply Kp.alloc) | (with_reducible apply Kp.drew) | (with_reducible apply Kp.drewN) | (with_reducible refine Kp.setCell ?_ (by first | (dsimp only; omega) | (simp; omega) | (simp; done) | (simp [size_ext_eq]; omega)) _))), ((hk.trans hk2).new (g := w.heap.size + 1) (by omega) 0 (.float .f64 x)).trans (Kx.of_kp (by repeat (first | (with_reducible exact Kp.refl _) | (with_reducible assumption) | (with_reducible apply Kp.ext) | (with_reducible apply Kp.alloc) | (with_reducible apply Kp.drew) | (with_reducible apply Kp.drewN) | (with_reducible refine Kp.setCell ?_ (by first | (dsimp only; omega) | (simp; omega) | (simp; done) | (simp [size_ext_eq]; omega)) _)))), Hpt2.out.set0.kp (by repeat (first | (with_reducible exact Kp.refl _) | (with_reducible assumption) | (with_reducible apply Kp.ext) | (with_reducible apply Kp.alloc) | (with_reducible apply Kp.drew) | (with_reducible apply Kp.drewN) | (with_reducible refine Kp.setCell ?_ (by first | (dsimp only; omega) | (simp; omega) | (simp; done) | (simp [size_ext_eq]; omega)) _))), .inr (.inl ⟨rfl, rfl, rfl, HY.out⟩)⟩
          case measure => simp [intOf]
        · have HX := Lib.hid (HR.out false _ [] _ wr L1.out hcut hrd)
          have r0 := hpt.r0
          have r1 := hpt.r1
          have rz0 := hpt.rz 0
          have rz1 := hpt.rz 1
          have Hpt := Lib.hid hpt
          clear q0 q1 q2 r0 r1 rz0 rz1 hpt
          go_wp2_with (go_at_call 78; (with_reducible refine (HX.out).mono ?_); rintro e w2 h1; obtain ⟨a, n, hea, rfl, hk2, hk0⟩ := h1.no; have HE := Lib.hid hea; have hpt2 := Hpt.out.kx hk2 Hs.out; obtain ⟨x0, r0⟩ := hpt2.r0; obtain ⟨x1, r1⟩ := hpt2.r1; have z0 := hpt2.rz 0; have z1 := hpt2.rz 1; clear h1 hea hpt2)
          refine bodyPost_ret (v := .tuple #[.agg #[.float .f64 0, .float .f64 0], .iface 191 (.pointer (some a))]) (by simp [results, Tryz.results59, go_sem, r0, r1]) rfl ?_
          exact .mk0 ((ErrA.set HE.out _ 0 _).set _ 1 _) (((hk.trans hk2).new (g := w.heap.size) (by omega) 0 _).new (g := w.heap.size) (by omega) 1 _) ((hk0.setCell (by simpa using hgw) _).setCell (by simpa using hgw) _)
      · replace hu := hu.symm
        subst hu
        have q0 := hpt.c0
        have q1 := hpt.c1
        have q2 := hpt.fz
        cases b
        · have HX := Lib.hid (HR.out false _ r _ wr L2.out hP2 hrd)
          have Hpt := Lib.hid hpt
          clear q0 q1 q2 hpt
          go_wp2_with (go_at_call 78; (with_reducible refine (HX.out).mono ?_); rintro e w2 h1; obtain ⟨a, n, hea, rfl, hk2, hk0⟩ := h1.no; have HE := Lib.hid hea; have hpt2 := Hpt.out.kx hk2 Hs.out; obtain ⟨x0, r0⟩ := hpt2.r0; obtain ⟨x1, r1⟩ := hpt2.r1; have z0 := hpt2.rz 0; have z1 := hpt2.rz 1; clear h1 hea hpt2)
          refine bodyPost_ret (v := .tuple #[.agg #[.float .f64 0, .float .f64 0], .iface 191 (.pointer (some a))]) (by simp [results, Tryz.results59, go_sem, r0, r1]) rfl ?_
          exact .mk0 ((ErrA.set HE.out _ 0 _).set _ 1 _) (((hk.trans hk2).new (g := w.heap.size) (by omega) 0 _).new (g := w.heap.size) (by omega) 1 _) ((hk0.setCell (by simpa using hgw) _).setCell (by simpa using hgw) _)
        · obtain rfl := hP2.whole
          have HX := Lib.hid (HR.out true _ _ _ wr L2.out (PreB.of (num64 y true) r) hrd)
          clear q0 q1 q2 hP2
          go_wp2_with (first | (go_at_call 78; (with_reducible refine (HX.out).mono ?_); rintro e w2 h1; obtain ⟨rfl, hrd2, hat, hk2⟩ := h1.yes; rw [L2.out]; have Hrd2 := Lib.hid hrd2; have Hat := Lib.hid hat; have hpt2 := hpt.kx hk2 Hs.out; have Hpt2 := Lib.hid hpt2; have q0 := hpt2.c1; have q2 := hpt2.fz 1; have q3 := hpt2.lt; have hgb2 := hrd2.bf.lt; clear h1 hrd2 hat hpt2) | (go_at_call 81; (first | (with_reducible refine (Ret.at_ext (HB.out y hy _ hgb2 Hat.out)).mono ?_) | (with_reducible refine (HB.out y hy _ hgb2 Hat.out).mono ?_)); rintro e w' ⟨rfl, u, rfl⟩))
          go_roundw
          case rel => exact ⟨r, x, y, (Hrd2.out.set (g := w.heap.size + 1) (by omega) (by omega) (by omega) 1 (.float .f64 y)).kp (by repeat (first | (with_reducible exact Kp.refl _) | (with_reducible assumption) | (with_reducible apply Kp.ext) | (with_reducible apply Kp.alloc) | (with_reducible apply Kp.drew) | (with_reducible apply Kp.drewN) | (with_reducible refine Kp.setCell ?_ (by first | (dsimp only; omega) | (simp; omega) | (simp; done) | (simp [size_ext_eq]; omega)) _))), ((hk.trans hk2).new (g := w.heap.size + 1) (by omega) 1 (.float .f64 y)).trans (Kx.of_kp (by repeat (first | (with_reducible exact Kp.refl _) | (with_reducible assumption) | (with_reducible apply Kp.ext) | (with_reducible apply Kp.alloc) | (with_reducible apply Kp.drew) | (with_reducible apply Kp.drewN) | (with_reducible refine Kp.setCell ?_ (by first | (dsimp only; omega) | (simp; omega) | (simp; done) | (simp [size_ext_eq]; omega)) _)))), Hpt2.out.set1.kp (by repeat (first | (with_reducible exact Kp.refl _) | (with_reducible assumption) | (with_reducible apply Kp.ext) | (with_reducible apply Kp.alloc) | (with_reducible apply Kp.drew) | (with_reducible apply Kp.drewN) | (with_reducible refine Kp.setCell ?_ (by first | (dsimp only; omega) | (simp; omega) | (simp; done) | (simp [size_ext_eq]; omega)) _))), .inr (.inr ⟨rfl, rfl, rfl, rfl, rfl⟩)⟩
          case measure => simp [intOf]
      · replace hu := hu.symm
        subst hu
        replace hv := hv.symm
        subst hv
        have q0 := hpt.c0
        have q1 := hpt.c1
        obtain ⟨x0, r0⟩ := hpt.r0
        obtain ⟨x1, r1⟩ := hpt.r1
        have z0 := hpt.rz 0
        have z1 := hpt.rz 1
        have q3 := hpt.lt
        have q4 : w.heap.size < wr.heap.size := by omega
        have Hrd := Lib.hid hrd
        clear hpt hrd
        go_wp2_with fail
        refine bodyPost_ret (v := .tuple #[.agg #[.float .f64 x, .float .f64 y], .nilIface]) (by simp [results, Tryz.results59, go_sem, r0, r1]) rfl ?_
        exact .mk1 ((Hrd.out.set (g := w.heap.size) (by omega) (by omega) (by omega) 0 _).set (g := w.heap.size) (by omega) (by omega) (by omega) 1 _) ((hk.new (g := w.heap.size) (by omega) 0 _).new (g := w.heap.size) (by omega) 1 _) rfl
end Go.Proofs.YtobdohhabgnjiaaGreatDoor

set_option linter.all false
namespace Go.Proofs.YtobdohhabgnjiaaGreatDoor
open PubFl Go.RowKit

attribute [local go_sem] cell_ext frozen_ext ext_setCell cell_store size_ext_eq lt_p0 lt_p1 lt_p2 lt_p3 lt_p4 lt_p5 lt_p6 lt_p7 lt_p8 lt_p9 lt_p10 lt_p11 lt_p12 lt_p13 lt_p14 lt_p15 lt_p16 lt_p17 lt_p18 lt_p19 lt_p20 lt_p21 lt_p22 lt_p23 lt_p24 lt_p25 lt_p26 lt_p27 lt_p28 lt_p29 lt_p30 lt_p31 lt_p32 lt_q1 lt_q2 lt_q3 lt_q4 lt_q5 lt_q6 lt_q7 lt_q8 lt_q9 lt_q10 lt_q11 lt_q12 lt_q13 lt_q14 lt_q15 lt_q16 lt_q17 lt_q18 lt_q19 lt_q20 lt_q21 lt_q22 lt_q23 lt_q24 lt_q25 lt_q26 lt_q27 lt_q28 lt_q29 lt_q30 lt_q31 lt_q32 run_fop run_store_float
attribute [local go_sem high] cmp_eql cmp_neq cmp_lss cmp_leq cmp_gtr cmp_geq

theorem ptsForm_drop (ps : List (Nat × Nat)) (big : Bool) (k : Nat) (h : k < ps.length) : ptsForm (ps.drop k) big = (num64 (ps[k]'h).1 big ++ num64 (ps[k]'h).2 big) ++ ptsForm (ps.drop (k + 1)) big := by
  rw [List.drop_eq_getElem_cons h]; rfl
theorem RdW.gR_lt {w0 w : World} {gR gb : Nat} {bs : List Nat} (h : RdW w0 w gR gb bs) : ∀ b ∈ [gR, gb], b < w.heap.size := fun b hb => by
  rcases List.mem_cons.1 hb with rfl | hb
  · exact h.rd.lt
  · obtain rfl := List.mem_singleton.1 hb
    exact h.bf.lt
theorem Kx.below {S : List Nat} {w w1 w2 : World} (h : Kx S w w1) (k : Below w.heap.size w1 w2) : Kx S w w2 :=
  ⟨k.os.trans h.os, k.tape.trans h.tape, k.output.trans h.output, Nat.le_trans h.size k.size, fun b hb hn => (k.block b hb).trans (h.block b hb hn)⟩
theorem RdW.below {n : Nat} {w0 w w' : World} {gR gb : Nat} {bs : List Nat} (h : RdW w0 w gR gb bs) (k : Below n w w') (hs : ∀ b ∈ [gR, gb], b < n) : RdW w0 w' gR gb bs := by
  have l1 : gR < n := hs gR (by simp)
  have l2 : gb < n := hs gb (by simp)
  obtain ⟨⟨h1, h2, h3, ⟨g, off, m, c, i, h4, h5, h6⟩, ⟨r, h7⟩, h8⟩, ⟨b1, cur, b2, b3⟩, ne⟩ := h
  exact ⟨⟨Below.trans h1 (Below.mono k (by omega)), h2, Nat.lt_of_lt_of_le h3 k.size, ⟨g, off, m, c, i, (k.cell (p := ⟨gR, 0, none⟩) l1).trans h4, (k.cell (p := ⟨gR, 1, none⟩) l1).trans h5, h6⟩, ⟨r, (k.cell (p := ⟨gR, 2, none⟩) l1).trans h7⟩, fun j => (k.frozen (p := ⟨gR, j, none⟩) l1).trans (h8 j)⟩, ⟨b1, cur, (k.block gb l2).trans b2, b3⟩, ne⟩
/-- the loop of readLineString -/
def LoopL (b : Bool) (w0 : World) (gR gb N : Nat) (ps : List (Nat × Nat)) (big : Bool) (r : List Nat) (w : World) (s11 s12 : Value) (wr : World) : Prop :=
  ∃ (k : Nat) (rest : List Nat), k ≤ N ∧ s12 = .int .i64 (k : Int) ∧ RdW w0 wr gR gb rest ∧ Kx [gR, gb] w wr ∧ wr.ownsRow w.heap.size 88 2 s11 k (cellsOf (ps.take k)) ∧ (∃ g, s11.ownBlock = some g) ∧ PreB b (ptsForm (ps.drop k) big) r rest

set_option maxRecDepth 20000 in
set_option maxHeartbeats 4000000 in
theorem readLS_c (b : Bool) (w0 w : World) (gR gb c : Nat) (ps : List (Nat × Nat)) (hn : ps.length ≤ 300) (hbits : Bits ps) (big : Bool) (r bs : List Nat) (hP : PreB b (num32 ps.length big ++ ptsForm ps big) r bs) (h : RdW w0 w gR gb bs) (hc : 8 ≤ c) (hG : Gls w0) :
    Calls Tryz.prog 61 #[rdrV gR, .int .i64 (ordI big), .slice (some ⟨gb, 0, none⟩) 8 c] w (RetRd b w0 gR gb r w (fun w' v => PtsB w.heap.size w'.heap.size w' v ps) (.slice none 0 0)) := by
  obtain ⟨i0, hi, hz0, hz1, hz2⟩ := info_parts infoOPt
  have HU := Lib.hid (fun b' r' bs' w' (hP : PreB b' (num32 ps.length big) r' bs') (h : RdW w0 w' gR gb bs') => readU32_c b' w0 w' gR gb ps.length c big r' bs' hP h (by omega) (by omega) hG)
  have HQ := Lib.hid (fun b' (k : Nat) (hk : k < ps.length) r' bs' w' (hP : PreB b' (num64 (ps[k]'hk).1 big ++ num64 (ps[k]'hk).2 big) r' bs') (h : RdW w0 w' gR gb bs') => readPoint_c b' w0 w' gR gb (ps[k]'hk).1 (ps[k]'hk).2 c (hbits k hk).1 (hbits k hk).2 big r' bs' hP h hc hG)
  have hmk : ∀ w, (Instr.makeSlice 91 (.int .i64 0) (.int .u32 (ps.length : Int))).run Tryz.prog w = .ok (.slice (some ⟨w.heap.size, 0, none⟩) 0 ps.length) (w.alloc (.cells (madeCells #[.float .f64 0, .float .f64 0] (ps.length * 2)) 88)) := fun w => by
    have := run_make (P := Tryz.prog) w 91 88 i0 (.agg #[.float .f64 0, .float .f64 0]) Tryz.underlying91 hi hz0 .i64 .u32 0 (ps.length : Int) (by omega) (by omega) (by rw [hz2]; omega) (by omega)
    rw [this, hz1]
    rfl
  have k6 : ((10000 : Int) < (ps.length : Int)) = False := eq_false (by omega)
  have k7 : (4 : Int) ≤ (c : Int) := by omega
  have Hs := Lib.hid h.gR_lt
  have Hge := Lib.hid h.ges
  have H0 := Lib.hid h
  have hst := hP.step
  obtain ⟨N, hN⟩ : ∃ N, ps.length = N := ⟨_, rfl⟩
  rw [hN] at hn HU hmk k6 hst
  have HN := Lib.hid hN
  generalize hO : ordI big = o at *
  unfold rdrV at HU HQ ⊢
  clear hP h hN hbits hO
  rcases hst with ⟨r2, rfl, hP2⟩ | ⟨rfl, hcut, _⟩
  rotate_left 1
  · have HX := Lib.hid (HU.out false [] _ w hcut H0.out)
    go_enter Tryz.func61, Tryz.ntmps61
    go_wp2_with (go_at_call 77; (with_reducible refine (HX.out).mono ?_); rintro e w1 h2; obtain ⟨a, hea, rfl, hk, hk0⟩ := h2.no; have HE := Lib.hid hea; clear h2 hea)
    refine bodyPost_ret (v := .tuple #[.slice none 0 0, .iface 191 (.pointer (some a))]) (by simp [results, Tryz.results61, go_sem]) rfl ?_
    exact .mk0 HE.out hk hk0
  have HX := Lib.hid (HU.out true _ _ w (PreB.of (num32 N big) r2) H0.out)
  have HP2 := Lib.hid hP2
  clear hP2
  go_enter Tryz.func61, Tryz.ntmps61
  go_wp2_with (go_at_call 77; (with_reducible refine (HX.out).mono ?_); rintro e w1 h2; obtain ⟨v, rfl, hrd1, hk1, rfl⟩ := h2.yes; have Hrd1 := Lib.hid hrd1; clear h2 hrd1)
  go_loopw [11, 12] (fun s11 s12 wr => LoopL b w0 gR gb N ps big r w s11 s12 wr) (fun _ s12 _ => N - (intOf s12).toNat)
  case atStart =>
    refine ⟨0, r2, Nat.zero_le _, rfl, Hrd1.out.kp (by repeat (first | (with_reducible exact Kp.refl _) | (with_reducible assumption) | (with_reducible apply Kp.ext) | (with_reducible apply Kp.alloc) | (with_reducible apply Kp.drew) | (with_reducible apply Kp.drewN) | (with_reducible refine Kp.setCell ?_ (by first | (dsimp only; omega) | (simp; omega) | (simp; done) | (simp [size_ext_eq]; omega)) _))), hk1.trans (Kx.of_kp (by repeat (first | (with_reducible exact Kp.refl _) | (with_reducible assumption) | (with_reducible apply Kp.ext) | (with_reducible apply Kp.alloc) | (with_reducible apply Kp.drew) | (with_reducible apply Kp.drewN) | (with_reducible refine Kp.setCell ?_ (by first | (dsimp only; omega) | (simp; omega) | (simp; done) | (simp [size_ext_eq]; omega)) _)))), ?_, ⟨_, rfl⟩, by rw [List.drop_zero]; exact HP2.out⟩
    exact World.ownsRow_made (base := w.heap.size) (e := 88) (size := 2) w1 (madeCells #[.float .f64 0, .float .f64 0] (N * 2)) N hk1.size (by unfold maxLen; omega) (by simp [size_madeCells])
  case round =>
    obtain ⟨k, rest, hkn, rfl, hrd, hkx, hown, ⟨g0, hg0⟩, hpre⟩ := hrel
    by_cases hlt : k < N
    · have hlt' : k < ps.length := by rw [HN.out]; exact hlt
      have hc1 : cellsOf (ps.take (k + 1)) = cellsOf (ps.take k) ++ [.float .f64 (ps[k]'hlt').1, .float .f64 (ps[k]'hlt').2] := by
        rw [List.take_succ_eq_append_getElem hlt', cellsOf_snoc]
      rw [ptsForm_drop ps big k hlt'] at hpre
      have hk1 : (k : Int) < (N : Int) := by omega
      have hk3 : (k : Int) ≤ 300 := by omega
      have HQk := fun b' => HQ.out b' k hlt'
      obtain ⟨⟨px, py⟩, hq⟩ : ∃ q, ps[k]'hlt' = q := ⟨_, rfl⟩
      rw [hq] at hc1 hpre HQk
      simp only at hc1 hpre HQk
      have Hown := Lib.hid hown
      have Hc := Lib.hid hc1
      have Hg0 := Lib.hid hg0
      have Hkx := Lib.hid hkx
      have hsz := hkx.size
      clear hown hc1 hg0 hq hkx
      rcases hpre.step with ⟨r3, rfl, hpre3⟩ | ⟨rfl, hcut, _⟩
      rotate_left 1
      · have HX := Lib.hid (HQk false [] _ wr hcut hrd)
        clear hpre hcut HQk hrd
        go_wp2_with (go_at_call 59; (with_reducible refine (HX.out).mono ?_); rintro e w2 h2; obtain ⟨a, hea, rfl, hk2, hk0⟩ := h2.no; have HE := Lib.hid hea; clear h2 hea)
        refine bodyPost_ret (v := .tuple #[.slice none 0 0, .iface 191 (.pointer (some a))]) (by simp [results, Tryz.results61, go_sem]) rfl ?_
        exact .mk0 (HE.out.kp (by repeat (first | (with_reducible exact Kp.refl _) | (with_reducible assumption) | (with_reducible apply Kp.ext) | (with_reducible apply Kp.alloc) | (with_reducible apply Kp.drew) | (with_reducible apply Kp.drewN) | (with_reducible refine Kp.setCell ?_ (by first | (dsimp only; omega) | (simp; omega) | (simp; done) | (simp [size_ext_eq]; omega)) _)))) (Hkx.out.trans (hk2.trans (Kx.of_kp (by repeat (first | (with_reducible exact Kp.refl _) | (with_reducible assumption) | (with_reducible apply Kp.ext) | (with_reducible apply Kp.alloc) | (with_reducible apply Kp.drew) | (with_reducible apply Kp.drewN) | (with_reducible refine Kp.setCell ?_ (by first | (dsimp only; omega) | (simp; omega) | (simp; done) | (simp [size_ext_eq]; omega)) _)))))) (hk0.trans (by repeat (first | (with_reducible exact Kp.refl _) | (with_reducible assumption) | (with_reducible apply Kp.ext) | (with_reducible apply Kp.alloc) | (with_reducible apply Kp.drew) | (with_reducible apply Kp.drewN) | (with_reducible refine Kp.setCell ?_ (by first | (dsimp only; omega) | (simp; omega) | (simp; done) | (simp [size_ext_eq]; omega)) _))))
      have HX := Lib.hid (HQk true _ _ wr (PreB.of _ r3) hrd)
      have Hp3 := Lib.hid hpre3
      clear hpre hpre3 HQk hrd
      go_wp2_with (first | (go_at_call 59; (with_reducible refine (HX.out).mono ?_); rintro e w2 h2; obtain ⟨v, rfl, hrd2, hk2, rfl⟩ := h2.yes; have Hrd2 := Lib.hid hrd2; have Hk2 := Lib.hid hk2; have hsz2 := hk2.size; clear h2 hrd2 hk2) | (at_builtin; refine wpList_append_own2 _ rfl (.tmp 47) (.tmp 49) 91 rfl w.heap.size 88 i0 (.agg #[.float .f64 0, .float .f64 0]) 2 16 Tryz.underlying91 hi hz0 hz1 hz2 rfl (by decide) _ k _ rfl (own_kp (own_kx Hown.out Hk2.out Hs.out) (((Kp.refl w2).alloc _).alloc _)) _ 1 1 [.float .f64 px, .float .f64 py] rfl rfl ?c1 ?c2 ?c3 ?c4 ?c5 ?_))
      case c1 => (first | exact new_cells2 _ _ _ _ | (have h := new_cells2 (w2.alloc (.cells #[.float .f64 px, .float .f64 py] 88)) px py 88; rw [World.size_alloc] at h; exact h))
      case c2 => exact one_cells2 _ _
      case c3 => unfold maxLen; omega
      case c4 => omega
      case c5 => simp; omega
      intro v' w3 hown3 hgrow3 hblk
      have hbw : Below w.heap.size w2 w3 := Below.trans (Below.mono (show Kp w2 _ from (by repeat (first | (with_reducible exact Kp.refl _) | (with_reducible assumption) | (with_reducible apply Kp.ext) | (with_reducible apply Kp.alloc) | (with_reducible apply Kp.drew) | (with_reducible apply Kp.drewN) | (with_reducible refine Kp.setCell ?_ (by first | (dsimp only; omega) | (simp; omega) | (simp; done) | (simp [size_ext_eq]; omega)) _)))) (by omega)) (Below.grown (Below.refl _ _) hgrow3 (by simp; omega) (fun q hq => (Hown.out.lt q hq).1))
      have hnn : ∃ g, v'.ownBlock = some g := by rcases hblk with e | e <;> exact ⟨_, e.trans (by first | exact Hg0.out | rfl)⟩
      have hown3 := Lib.hid hown3
      clear hgrow3 hblk
      go_wp2_with fail
      go_roundw
      case rel => exact ⟨k + 1, r3, by omega, by go_num, Hrd2.out.below hbw Hs.out, (Hkx.out.trans Hk2.out).below hbw, (by rw [Hc.out]; exact hown3.out), hnn, Hp3.out⟩
      case measure => simp [intOf]; omega
    · obtain rfl : k = N := by omega
      rw [← HN.out, List.drop_length] at hpre
      have hpre : PreB b [] r rest := hpre
      obtain ⟨rfl, rfl⟩ := hpre.nil
      have Hown := Lib.hid (show wr.ownsRow w.heap.size 88 2 u11 ps.length (cellsOf ps) by
        rw [← HN.out, List.take_of_length_le (Nat.le_refl _)] at hown
        exact hown)
      have Hg0 := Lib.hid hg0
      have Hrd := Lib.hid hrd
      clear hown hg0 hpre hrd
      go_wp2_with fail
      refine bodyPost_ret (v := .tuple #[u11, .nilIface]) (by simp [results, Tryz.results61, go_sem]) rfl ?_
      exact .mk1 (Hrd.out.kp (by repeat (first | (with_reducible exact Kp.refl _) | (with_reducible assumption) | (with_reducible apply Kp.ext) | (with_reducible apply Kp.alloc) | (with_reducible apply Kp.drew) | (with_reducible apply Kp.drewN) | (with_reducible refine Kp.setCell ?_ (by first | (dsimp only; omega) | (simp; omega) | (simp; done) | (simp [size_ext_eq]; omega)) _)))) (hkx.trans (Kx.of_kp (by repeat (first | (with_reducible exact Kp.refl _) | (with_reducible assumption) | (with_reducible apply Kp.ext) | (with_reducible apply Kp.alloc) | (with_reducible apply Kp.drew) | (with_reducible apply Kp.drewN) | (with_reducible refine Kp.setCell ?_ (by first | (dsimp only; omega) | (simp; omega) | (simp; done) | (simp [size_ext_eq]; omega)) _))))) (own_ptsB Hown.out ⟨_, Hg0.out⟩)
end Go.Proofs.YtobdohhabgnjiaaGreatDoor

set_option linter.all false
namespace Go.Proofs.YtobdohhabgnjiaaGreatDoor
open PubFl Go.RowKit

attribute [local go_sem] cell_ext frozen_ext ext_setCell cell_store size_ext_eq lt_p0 lt_p1 lt_p2 lt_p3 lt_p4 lt_p5 lt_p6 lt_p7 lt_p8 lt_p9 lt_p10 lt_p11 lt_p12 lt_p13 lt_p14 lt_p15 lt_p16 lt_p17 lt_p18 lt_p19 lt_p20 lt_p21 lt_p22 lt_p23 lt_p24 lt_p25 lt_p26 lt_p27 lt_p28 lt_p29 lt_p30 lt_p31 lt_p32 lt_q1 lt_q2 lt_q3 lt_q4 lt_q5 lt_q6 lt_q7 lt_q8 lt_q9 lt_q10 lt_q11 lt_q12 lt_q13 lt_q14 lt_q15 lt_q16 lt_q17 lt_q18 lt_q19 lt_q20 lt_q21 lt_q22 lt_q23 lt_q24 lt_q25 lt_q26 lt_q27 lt_q28 lt_q29 lt_q30 lt_q31 lt_q32 run_fop run_store_float
attribute [local go_sem high] cmp_eql cmp_neq cmp_lss cmp_leq cmp_gtr cmp_geq

theorem RetHd.yes {w0 : World} {gR gb k s : Nat} {big : Bool} {r : List Nat} {w w' : World} {e : Ending} (h : RetHd true w0 gR gb k s big r w e w') : e = .returned (.tuple #[.int .i64 (ordI big), .int .u32 (k : Int), .int .i64 (s : Int), .nilIface]) ∧ RdW w0 w' gR gb r ∧ Kx [gR, gb] w w' := h.1 rfl
theorem RetHd.no {w0 : World} {gR gb k s : Nat} {big : Bool} {r : List Nat} {w w' : World} {e : Ending} (h : RetHd false w0 gR gb k s big r w e w') : ∃ a, ErrA w' a ∧ e = .returned (.tuple #[.int .i64 0, .int .u32 0, .int .i64 0, .iface 191 (.pointer (some a))]) ∧ Kx [gR, gb] w w' ∧ Kp w0 w' := h.2 rfl
/-- the loop of readMultiPoint -/
def LoopM (b : Bool) (w0 : World) (gR gb N : Nat) (ps : List (Nat × Nat)) (f : Nat → List Nat) (r : List Nat) (w : World) (s11 s12 : Value) (wr : World) : Prop :=
  ∃ (k : Nat) (rest : List Nat), k ≤ N ∧ s12 = .int .i64 (k : Int) ∧ RdW w0 wr gR gb rest ∧ Kx [gR, gb] w wr ∧ wr.ownsRow w.heap.size 88 2 s11 k (cellsOf (ps.take k)) ∧ (∃ g, s11.ownBlock = some g) ∧ PreB b (sufB f k (N - k)) r rest

set_option maxRecDepth 20000 in
set_option maxHeartbeats 4000000 in
theorem readMP_c (b : Bool) (w0 w : World) (gR gb c : Nat) (ps : List (Nat × Nat)) (hn : ps.length ≤ 300) (hbits : Bits ps) (big pb : Bool) (f : Nat → List Nat) (hf : ∀ i (hi : i < ps.length), f i = headB 1 0 pb ++ (num64 (ps[i]'hi).1 pb ++ num64 (ps[i]'hi).2 pb)) (r bs : List Nat) (hP : PreB b (num32 ps.length big ++ sufB f 0 ps.length) r bs) (h : RdW w0 w gR gb bs) (hc : 8 ≤ c) (hG : Gls w0) :
    Calls Tryz.prog 60 #[rdrV gR, .int .i64 (ordI big), .slice (some ⟨gb, 0, none⟩) 8 c] w (RetRd b w0 gR gb r w (fun w' v => PtsB w.heap.size w'.heap.size w' v ps) (.slice none 0 0)) := by
  obtain ⟨i0, hi, hz0, hz1, hz2⟩ := info_parts infoOPt
  have HU := Lib.hid (fun b' r' bs' w' (hP : PreB b' (num32 ps.length big) r' bs') (h : RdW w0 w' gR gb bs') => readU32_c b' w0 w' gR gb ps.length c big r' bs' hP h (by omega) (by omega) hG)
  have HH := Lib.hid (fun b' r' bs' w' (hP : PreB b' (headB 1 0 pb) r' bs') (h : RdW w0 w' gR gb bs') => readHd_c b' w0 w' gR gb 1 0 c (by decide) (by decide) pb r' bs' hP h hc hG)
  have HQ := Lib.hid (fun b' (k : Nat) (hk : k < ps.length) r' bs' w' (hP : PreB b' (num64 (ps[k]'hk).1 pb ++ num64 (ps[k]'hk).2 pb) r' bs') (h : RdW w0 w' gR gb bs') => readPoint_c b' w0 w' gR gb (ps[k]'hk).1 (ps[k]'hk).2 c (hbits k hk).1 (hbits k hk).2 pb r' bs' hP h hc hG)
  have hmk : ∀ w, (Instr.makeSlice 95 (.int .i64 0) (.int .u32 (ps.length : Int))).run Tryz.prog w = .ok (.slice (some ⟨w.heap.size, 0, none⟩) 0 ps.length) (w.alloc (.cells (madeCells #[.float .f64 0, .float .f64 0] (ps.length * 2)) 88)) := fun w => by
    have := run_make (P := Tryz.prog) w 95 88 i0 (.agg #[.float .f64 0, .float .f64 0]) Tryz.underlying95 hi hz0 .i64 .u32 0 (ps.length : Int) (by omega) (by omega) (by rw [hz2]; omega) (by omega)
    rw [this, hz1]
    rfl
  have k6 : ((10000 : Int) < (ps.length : Int)) = False := eq_false (by omega)
  have k7 : (4 : Int) ≤ (c : Int) := by omega
  have Hs := Lib.hid h.gR_lt
  have H0 := Lib.hid h
  have hst := hP.step
  have Hf := Lib.hid hf
  obtain ⟨N, hN⟩ : ∃ N, ps.length = N := ⟨_, rfl⟩
  rw [hN] at hn HU hmk k6 hst
  have HN := Lib.hid hN
  generalize hO : ordI big = o at *
  obtain ⟨po, hpo⟩ : ∃ po, ordI pb = po := ⟨_, rfl⟩
  have Hpo := Lib.hid hpo
  rw [hpo] at HQ
  unfold rdrV at HU HQ HH ⊢
  clear hP h hN hbits hO hpo hf
  rcases hst with ⟨r2, rfl, hP2⟩ | ⟨rfl, hcut, _⟩
  rotate_left 1
  · have HX := Lib.hid (HU.out false [] _ w hcut H0.out)
    go_enter Tryz.func60, Tryz.ntmps60
    go_wp2_with (go_at_call 77; (with_reducible refine (HX.out).mono ?_); rintro e w1 h2; obtain ⟨a, hea, rfl, hk, hk0⟩ := h2.no; have HE := Lib.hid hea; clear h2 hea)
    refine bodyPost_ret (v := .tuple #[.slice none 0 0, .iface 191 (.pointer (some a))]) (by simp [results, Tryz.results60, go_sem]) rfl ?_
    exact .mk0 HE.out hk hk0
  have HX := Lib.hid (HU.out true _ _ w (PreB.of (num32 N big) r2) H0.out)
  have HP2 := Lib.hid hP2
  clear hP2
  go_enter Tryz.func60, Tryz.ntmps60
  go_wp2_with (go_at_call 77; (with_reducible refine (HX.out).mono ?_); rintro e w1 h2; obtain ⟨v, rfl, hrd1, hk1, rfl⟩ := h2.yes; have Hrd1 := Lib.hid hrd1; clear h2 hrd1)
  go_loopw [11, 12] (fun s11 s12 wr => LoopM b w0 gR gb N ps f r w s11 s12 wr) (fun _ s12 _ => N - (intOf s12).toNat)
  case atStart =>
    refine ⟨0, r2, Nat.zero_le _, rfl, Hrd1.out.kp (by repeat (first | (with_reducible exact Kp.refl _) | (with_reducible assumption) | (with_reducible apply Kp.ext) | (with_reducible apply Kp.alloc) | (with_reducible apply Kp.drew) | (with_reducible apply Kp.drewN) | (with_reducible refine Kp.setCell ?_ (by first | (dsimp only; omega) | (simp; omega) | (simp; done) | (simp [size_ext_eq]; omega)) _))), hk1.trans (Kx.of_kp (by repeat (first | (with_reducible exact Kp.refl _) | (with_reducible assumption) | (with_reducible apply Kp.ext) | (with_reducible apply Kp.alloc) | (with_reducible apply Kp.drew) | (with_reducible apply Kp.drewN) | (with_reducible refine Kp.setCell ?_ (by first | (dsimp only; omega) | (simp; omega) | (simp; done) | (simp [size_ext_eq]; omega)) _)))), ?_, ⟨_, rfl⟩, HP2.out⟩
    exact World.ownsRow_made (base := w.heap.size) (e := 88) (size := 2) w1 (madeCells #[.float .f64 0, .float .f64 0] (N * 2)) N hk1.size (by unfold maxLen; omega) (by simp [size_madeCells])
  case round =>
    obtain ⟨k, rest, hkn, rfl, hrd, hkx, hown, ⟨g0, hg0⟩, hpre⟩ := hrel
    by_cases hlt : k < N
    · have hlt' : k < ps.length := by rw [HN.out]; exact hlt
      have hc1 : cellsOf (ps.take (k + 1)) = cellsOf (ps.take k) ++ [.float .f64 (ps[k]'hlt').1, .float .f64 (ps[k]'hlt').2] := by
        rw [List.take_succ_eq_append_getElem hlt', cellsOf_snoc]
      rw [show N - k = (N - (k + 1)) + 1 by omega] at hpre
      replace hpre : PreB b (f k ++ sufB f (k + 1) (N - (k + 1))) r rest := hpre
      rw [Hf.out k hlt', List.append_assoc] at hpre
      have hk1 : (k : Int) < (N : Int) := by omega
      have hk3 : (k : Int) ≤ 300 := by omega
      have HQk := fun b' => HQ.out b' k hlt'
      obtain ⟨⟨px, py⟩, hq⟩ : ∃ q, ps[k]'hlt' = q := ⟨_, rfl⟩
      rw [hq] at hc1 hpre HQk
      simp only at hc1 hpre HQk
      have Hown := Lib.hid hown
      have Hc := Lib.hid hc1
      have Hg0 := Lib.hid hg0
      have Hkx := Lib.hid hkx
      have hsz := hkx.size
      clear hown hc1 hg0 hq hkx
      rcases hpre.step with ⟨r3, rfl, hpre3⟩ | ⟨rfl, hcut, _⟩
      rotate_left 1
      · have HX := Lib.hid (HH.out false [] _ wr hcut hrd)
        clear hpre hcut HQk hrd
        go_wp2_with (go_at_call 58; (with_reducible refine (HX.out).mono ?_); rintro e w2 h2; obtain ⟨a, hea, rfl, hk2, hk0⟩ := h2.no; have HE := Lib.hid hea; clear h2 hea)
        refine bodyPost_ret (v := .tuple #[.slice none 0 0, .iface 191 (.pointer (some a))]) (by simp [results, Tryz.results60, go_sem]) rfl ?_
        exact .mk0 (HE.out.kp (by repeat (first | (with_reducible exact Kp.refl _) | (with_reducible assumption) | (with_reducible apply Kp.ext) | (with_reducible apply Kp.alloc) | (with_reducible apply Kp.drew) | (with_reducible apply Kp.drewN) | (with_reducible refine Kp.setCell ?_ (by first | (dsimp only; omega) | (simp; omega) | (simp; done) | (simp [size_ext_eq]; omega)) _)))) (Hkx.out.trans (hk2.trans (Kx.of_kp (by repeat (first | (with_reducible exact Kp.refl _) | (with_reducible assumption) | (with_reducible apply Kp.ext) | (with_reducible apply Kp.alloc) | (with_reducible apply Kp.drew) | (with_reducible apply Kp.drewN) | (with_reducible refine Kp.setCell ?_ (by first | (dsimp only; omega) | (simp; omega) | (simp; done) | (simp [size_ext_eq]; omega)) _)))))) (hk0.trans (by repeat (first | (with_reducible exact Kp.refl _) | (with_reducible assumption) | (with_reducible apply Kp.ext) | (with_reducible apply Kp.alloc) | (with_reducible apply Kp.drew) | (with_reducible apply Kp.drewN) | (with_reducible refine Kp.setCell ?_ (by first | (dsimp only; omega) | (simp; omega) | (simp; done) | (simp [size_ext_eq]; omega)) _))))
      have HX := Lib.hid (HH.out true _ _ wr (PreB.of _ r3) hrd)
      rcases hpre3.step with ⟨r4, rfl, hpre4⟩ | ⟨rfl, hcut, _⟩
      rotate_left 1
      · have HY := Lib.hid (fun w' (h : RdW w0 w' gR gb r3) => HQk false [] _ w' hcut h)
        clear hpre hpre3 hcut HQk hrd
        go_wp2_with (first | (go_at_call 58; (with_reducible refine (HX.out).mono ?_); rintro e w2 h2; obtain ⟨rfl, hrd2, hk2⟩ := h2.yes; rw [Hpo.out]; have Hrd2 := Lib.hid hrd2; clear h2 hrd2) | (go_at_call 59; (with_reducible refine (HY.out _ (Hrd2.out.kp (by repeat (first | (with_reducible exact Kp.refl _) | (with_reducible assumption) | (with_reducible apply Kp.ext) | (with_reducible apply Kp.alloc) | (with_reducible apply Kp.drew) | (with_reducible apply Kp.drewN) | (with_reducible refine Kp.setCell ?_ (by first | (dsimp only; omega) | (simp; omega) | (simp; done) | (simp [size_ext_eq]; omega)) _))))).mono ?_); rintro e w3 h3; obtain ⟨a, hea, rfl, hk3, hk0⟩ := h3.no; have HE := Lib.hid hea; clear h3 hea))
        refine bodyPost_ret (v := .tuple #[.slice none 0 0, .iface 191 (.pointer (some a))]) (by simp [results, Tryz.results60, go_sem]) rfl ?_
        exact .mk0 (HE.out.kp (by repeat (first | (with_reducible exact Kp.refl _) | (with_reducible assumption) | (with_reducible apply Kp.ext) | (with_reducible apply Kp.alloc) | (with_reducible apply Kp.drew) | (with_reducible apply Kp.drewN) | (with_reducible refine Kp.setCell ?_ (by first | (dsimp only; omega) | (simp; omega) | (simp; done) | (simp [size_ext_eq]; omega)) _)))) (Hkx.out.trans (hk2.trans ((Kx.of_kp (by repeat (first | (with_reducible exact Kp.refl _) | (with_reducible assumption) | (with_reducible apply Kp.ext) | (with_reducible apply Kp.alloc) | (with_reducible apply Kp.drew) | (with_reducible apply Kp.drewN) | (with_reducible refine Kp.setCell ?_ (by first | (dsimp only; omega) | (simp; omega) | (simp; done) | (simp [size_ext_eq]; omega)) _)))).trans (hk3.trans (Kx.of_kp (by repeat (first | (with_reducible exact Kp.refl _) | (with_reducible assumption) | (with_reducible apply Kp.ext) | (with_reducible apply Kp.alloc) | (with_reducible apply Kp.drew) | (with_reducible apply Kp.drewN) | (with_reducible refine Kp.setCell ?_ (by first | (dsimp only; omega) | (simp; omega) | (simp; done) | (simp [size_ext_eq]; omega)) _)))))))) (hk0.trans (by repeat (first | (with_reducible exact Kp.refl _) | (with_reducible assumption) | (with_reducible apply Kp.ext) | (with_reducible apply Kp.alloc) | (with_reducible apply Kp.drew) | (with_reducible apply Kp.drewN) | (with_reducible refine Kp.setCell ?_ (by first | (dsimp only; omega) | (simp; omega) | (simp; done) | (simp [size_ext_eq]; omega)) _))))
      have HY := Lib.hid (fun w' h => HQk true _ _ w' (PreB.of _ r4) h)
      have Hp4 := Lib.hid hpre4
      clear hpre hpre3 hpre4 HQk hrd
      go_wp2_with (first | (go_at_call 58; (with_reducible refine (HX.out).mono ?_); rintro e w2 h2; obtain ⟨rfl, hrd2, hk2⟩ := h2.yes; rw [Hpo.out]; have Hrd2 := Lib.hid hrd2; have Hk2 := Lib.hid hk2; have hsz2 := hk2.size; clear h2 hrd2 hk2) | (go_at_call 59; (with_reducible refine (HY.out _ (Hrd2.out.kp (by repeat (first | (with_reducible exact Kp.refl _) | (with_reducible assumption) | (with_reducible apply Kp.ext) | (with_reducible apply Kp.alloc) | (with_reducible apply Kp.drew) | (with_reducible apply Kp.drewN) | (with_reducible refine Kp.setCell ?_ (by first | (dsimp only; omega) | (simp; omega) | (simp; done) | (simp [size_ext_eq]; omega)) _))))).mono ?_); rintro e w3 h2; obtain ⟨v, rfl, hrd3, hk3, rfl⟩ := h2.yes; have Hrd3 := Lib.hid hrd3; have Hk3 := Lib.hid (Hk2.out.trans ((Kx.of_kp (show Kp w2 _ from (by repeat (first | (with_reducible exact Kp.refl _) | (with_reducible assumption) | (with_reducible apply Kp.ext) | (with_reducible apply Kp.alloc) | (with_reducible apply Kp.drew) | (with_reducible apply Kp.drewN) | (with_reducible refine Kp.setCell ?_ (by first | (dsimp only; omega) | (simp; omega) | (simp; done) | (simp [size_ext_eq]; omega)) _))))).trans hk3)); have hsz3 := (Hk3.out).size; clear h2 hrd3 hk3) | (at_builtin; refine wpList_append_own2 _ rfl (.tmp 64) (.tmp 66) 95 rfl w.heap.size 88 i0 (.agg #[.float .f64 0, .float .f64 0]) 2 16 Tryz.underlying95 hi hz0 hz1 hz2 rfl (by decide) _ k _ rfl (own_kp (own_kx Hown.out Hk3.out Hs.out) (((Kp.refl w3).alloc _).alloc _)) _ 1 1 [.float .f64 px, .float .f64 py] rfl rfl ?c1 ?c2 ?c3 ?c4 ?c5 ?_))
      case c1 => (first | exact new_cells2 _ _ _ _ | (have h := new_cells2 (w3.alloc (.cells #[.float .f64 px, .float .f64 py] 88)) px py 88; rw [World.size_alloc] at h; exact h))
      case c2 => exact one_cells2 _ _
      case c3 => unfold maxLen; omega
      case c4 => omega
      case c5 => simp; omega
      intro v' w4 hown4 hgrow4 hblk
      have hbw : Below w.heap.size w3 w4 := Below.trans (Below.mono (show Kp w3 _ from (by repeat (first | (with_reducible exact Kp.refl _) | (with_reducible assumption) | (with_reducible apply Kp.ext) | (with_reducible apply Kp.alloc) | (with_reducible apply Kp.drew) | (with_reducible apply Kp.drewN) | (with_reducible refine Kp.setCell ?_ (by first | (dsimp only; omega) | (simp; omega) | (simp; done) | (simp [size_ext_eq]; omega)) _)))) (by omega)) (Below.grown (Below.refl _ _) hgrow4 (by simp; omega) (fun q hq => (Hown.out.lt q hq).1))
      have hnn : ∃ g, v'.ownBlock = some g := by rcases hblk with e | e <;> exact ⟨_, e.trans (by first | exact Hg0.out | rfl)⟩
      have hown4 := Lib.hid hown4
      clear hgrow4 hblk
      go_wp2_with fail
      go_roundw
      case rel => exact ⟨k + 1, r4, by omega, by go_num, Hrd3.out.below hbw Hs.out, (Hkx.out.trans Hk3.out).below hbw, (by rw [Hc.out]; exact hown4.out), hnn, Hp4.out⟩
      case measure => simp [intOf]; omega
    · obtain rfl : k = N := by omega
      rw [Nat.sub_self] at hpre
      have hpre : PreB b [] r rest := hpre
      obtain ⟨rfl, rfl⟩ := hpre.nil
      have Hown := Lib.hid (show wr.ownsRow w.heap.size 88 2 u11 ps.length (cellsOf ps) by
        rw [← HN.out, List.take_of_length_le (Nat.le_refl _)] at hown
        exact hown)
      have Hg0 := Lib.hid hg0
      have Hrd := Lib.hid hrd
      clear hown hg0 hpre hrd
      go_wp2_with fail
      refine bodyPost_ret (v := .tuple #[u11, .nilIface]) (by simp [results, Tryz.results60, go_sem]) rfl ?_
      exact .mk1 (Hrd.out.kp (by repeat (first | (with_reducible exact Kp.refl _) | (with_reducible assumption) | (with_reducible apply Kp.ext) | (with_reducible apply Kp.alloc) | (with_reducible apply Kp.drew) | (with_reducible apply Kp.drewN) | (with_reducible refine Kp.setCell ?_ (by first | (dsimp only; omega) | (simp; omega) | (simp; done) | (simp [size_ext_eq]; omega)) _)))) (hkx.trans (Kx.of_kp (by repeat (first | (with_reducible exact Kp.refl _) | (with_reducible assumption) | (with_reducible apply Kp.ext) | (with_reducible apply Kp.alloc) | (with_reducible apply Kp.drew) | (with_reducible apply Kp.drewN) | (with_reducible refine Kp.setCell ?_ (by first | (dsimp only; omega) | (simp; omega) | (simp; done) | (simp [size_ext_eq]; omega)) _))))) (own_ptsB Hown.out ⟨_, Hg0.out⟩)
end Go.Proofs.YtobdohhabgnjiaaGreatDoor
