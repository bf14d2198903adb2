/-
  Bytes in memory; spec.number32.
  spec.number64, spec.pointsForm, spec.head.
  spec.head, spec.SameBytes.
  spec.Form of points and lines.
  spec.Form of polygons, points, lines and parts.
  spec.Form of polygons, lines and parts.
  spec.Form of any shape.
-/
import Derived.Test.YtobdohhabgnjiaaGreatDoorGeo
import Derived.Test.YtobdohhabgnjiaaGreatDoorPoly
import Derived.Test.YtobdohhabgnjiaaGreatDoorWm
import Derived.Test.YtobdohhabgnjiaaGreatDoorGeo2
import Derived.Test.YtobdohhabgnjiaaGreatDoorSpecEq
import Derived.Test.YtobdohhabgnjiaaGreatDoorMShOf
set_option linter.all false
namespace Go.Proofs.YtobdohhabgnjiaaGreatDoor
open PubFl Go.RowKit

attribute [local go_sem] cell_ext frozen_ext ext_setCell cell_store size_ext_eq lt_p0 lt_p1 lt_p2 lt_p3 lt_p4 lt_p5 lt_p6 lt_p7 lt_p8 lt_p9 lt_p10 lt_p11 lt_p12 lt_p13 lt_p14 lt_p15 lt_p16 lt_p17 lt_p18 lt_p19 lt_p20 lt_p21 lt_p22 lt_p23 lt_p24 lt_p25 lt_p26 lt_p27 lt_p28 lt_p29 lt_p30 lt_p31 lt_p32 lt_q1 lt_q2 lt_q3 lt_q4 lt_q5 lt_q6 lt_q7 lt_q8 lt_q9 lt_q10 lt_q11 lt_q12 lt_q13 lt_q14 lt_q15 lt_q16 lt_q17 lt_q18 lt_q19 lt_q20 lt_q21 lt_q22 lt_q23 lt_q24 lt_q25 lt_q26 lt_q27 lt_q28 lt_q29 lt_q30 lt_q31 lt_q32 run_fop run_store_float
attribute [local go_sem high] cmp_eql cmp_neq cmp_lss cmp_leq cmp_gtr cmp_geq

/-- bytes as values -/
def bc (bs : List Nat) : List Value := bs.map fun (b : Nat) => Value.int .u8 (b : Int)
theorem bc_length (bs : List Nat) : (bc bs).length = bs.length := by unfold bc; simp
theorem bc_append (as' bs : List Nat) : bc (as' ++ bs) = bc as' ++ bc bs := by unfold bc; simp
theorem bc_get (bs : List Nat) (i : Nat) (h : i < bs.length) : (bc bs)[i]? = some (.int .u8 ((bs[i]'h : Nat) : Int)) := by
  unfold bc; simp [h]
theorem bc_one (bs : List Nat) : ∀ u ∈ bc bs, u.oneCell' = true := by
  intro u hu
  unfold bc at hu
  obtain ⟨b, _, rfl⟩ := List.mem_map.1 hu
  rfl
def BytesAt (w : World) (b off : Nat) (bs : List Nat) : Prop := ∀ (i : Nat) (h : i < bs.length), w.cell? ⟨b, off + i, none⟩ = some (.int .u8 ((bs[i]'h : Nat) : Int))
theorem BytesAt.kp {w w' : World} {b off : Nat} {bs : List Nat} (h : BytesAt w b off bs) (hb : b < w.heap.size) (k : Kp w w') : BytesAt w' b off bs := fun i hi => Kp.cell k (h i hi) hb
theorem add_lit' (b off n : Nat) : (⟨b, off, none⟩ : Addr).add n = ⟨b, off + n, none⟩ := by
  unfold Addr.add
  by_cases hn : n = 0
  · subst hn; rfl
  · rw [if_neg hn]
theorem BytesAt.cells {w : World} {b off : Nat} {bs : List Nat} (h : BytesAt w b off bs) : ∀ j u, (bc bs)[j]? = some u → w.cell? ((⟨b, off, none⟩ : Addr).add j) = some u := by
  intro j u hj
  have hlt : j < bs.length := by
    rcases Nat.lt_or_ge j (bc bs).length with c | c
    · rwa [bc_length] at c
    · rw [List.getElem?_eq_none c] at hj; cases hj
  rw [bc_get _ _ hlt] at hj
  rw [add_lit', h j hlt]; exact hj
/-- a row of bytes that the call has made -/
structure OwnB (base : Nat) (w : World) (v : Value) (bs : List Nat) : Prop where
  own : w.ownsRow base 5 1 v bs.length (bc bs)
  nn : ∃ g, v.ownBlock = some g
theorem OwnB.kp {base : Nat} {w w' : World} {v : Value} {bs : List Nat} (h : OwnB base w v bs) (k : Kp w w') : OwnB base w' v bs := ⟨own_kp h.own k, h.nn⟩
theorem OwnB.base {base base' : Nat} {w : World} {v : Value} {bs : List Nat} (h : OwnB base w v bs) (hb : base' ≤ base) : OwnB base' w v bs := ⟨own_base h.own hb, h.nn⟩
theorem OwnB.form {base : Nat} {w : World} {v : Value} {bs : List Nat} (h : OwnB base w v bs) : ∃ g cap, v = .slice (some ⟨g, 0, none⟩) bs.length cap ∧ base ≤ g ∧ g < w.heap.size ∧ bs.length ≤ cap ∧ (∀ j, w.frozen? ⟨g, j, none⟩ = false) ∧ BytesAt w g 0 bs := by
  obtain ⟨hown, g0, hg0⟩ := h
  have hown' := hown
  rcases hown.2 with ⟨h, _⟩ | ⟨g, cap, cur, hv, hb, hg, h1, h2, h3, h4⟩
  · rw [h] at hg0; cases hg0
  · have hsz := (own_size hown' (g := g) (by rw [hv]; rfl)).2
    refine ⟨g, cap, hv, hb, hsz, h1, fun j => row_frozen hg, fun i hi => ?_⟩
    subst hv
    rw [Nat.zero_add]
    exact (hown'.cellAt _ (by omega)).trans (bc_get bs i hi)
theorem OwnB.at {base : Nat} {w : World} {g n c : Nat} {bs : List Nat} (h : OwnB base w (.slice (some ⟨g, 0, none⟩) n c) bs) : g < w.heap.size ∧ n = bs.length ∧ base ≤ g ∧ bs.length ≤ c ∧ (∀ j, w.frozen? ⟨g, j, none⟩ = false) ∧ BytesAt w g 0 bs := by
  obtain ⟨g', c', hv, h1, h2, h3, h4, h5⟩ := h.form
  injection hv with e1 e2 e3
  injection e1 with e1
  injection e1 with e1
  subst e1 e3
  exact ⟨h2, e2, h1, h3, h4, h5⟩
theorem OwnB.row {base : Nat} {w : World} {v : Value} {bs : List Nat} (h : OwnB base w v bs) : ∃ g, v.ownBlock = some g ∧ base ≤ g ∧ g < w.heap.size := by
  obtain ⟨g, hg⟩ := h.nn
  exact ⟨g, hg, h.own.lt g hg⟩
theorem OwnB.lit (w : World) (bs : List Nat) {base : Nat} (hb : base ≤ w.heap.size) (hn : bs.length ≤ 1000000) : OwnB base (w.alloc (.cells (bc bs).toArray 5)) (.slice (some ⟨w.heap.size, 0, none⟩) bs.length bs.length) bs := by
  refine ⟨?_, _, rfl⟩
  have h := World.ownsRow_lit (base := base) (e := 5) (size := 1) w (bc bs).toArray bs.length hb (by unfold maxLen; omega) (by simp [bc_length])
  simpa using h
/-- what a call hands back that makes bytes -/
def RetY (w : World) (bs : List Nat) (e : Ending) (w' : World) : Prop := ∃ v u, e = .returned v ∧ w' = ext w u ∧ OwnB w.heap.size w' v bs

theorem infoU8 : (Tryz.prog.info? 5).map (fun i => (i.zero, i.size, i.bytes)) = some (some (.int .u8 0), 1, 1) := by kernel_rfl
theorem wpList_append_bytes {ops : Array Oper} {rest : List Oper} {o : Oper} {a : Act} {w : World} {Q : Exit → Act → World → Prop} (hgd : o.guard = none) (s x : Operand)
    (ho : o.op = .call { callee := .builtin .append, args := #[s, x], argTypes := #[25, 25] })
    (base : Nat) (v : Value) (bs : List Nat) (hs : a.eval s = v) (hown : OwnB base w v bs)
    (g off c n : Nat) (qs : List Nat) (hx : a.eval x = .slice (some ⟨g, off, none⟩) n c) (hl : n = qs.length) (hat : BytesAt w g off qs) (hp : bs.length ≤ 1000000000000) (hq : qs.length ≤ 1000000000000) (hbase : base ≤ w.heap.size)
    (h : ∀ v' w', OwnB base w' v' (bs ++ qs) → Below base w w' → w.grownBy w' v.ownBlock → wpList Tryz.prog ops Q rest (a.put o.dst v') w') : wpList Tryz.prog ops Q (o :: rest) a w := by
  obtain ⟨i0, hi, hz0, hz1, hz2⟩ := info_parts infoU8
  subst hl
  refine wpList_append_own2 w hgd s x 25 ho base 5 i0 (.int .u8 0) 1 1 Tryz.underlying25 hi hz0 hz1 hz2 rfl (by decide) v bs.length _ hs hown.own ⟨g, off, none⟩ qs.length c (bc qs) hx (by rw [bc_length]; omega) hat.cells (bc_one qs) (by unfold maxLen; omega) (by omega) hbase ?_
  intro v' w' h1 h2 h3
  refine h v' w' ⟨by rw [bc_append, List.length_append]; exact h1, ?_⟩ (Below.grown (Below.refl _ _) h2 hbase fun q hq => (hown.own.lt q hq).1) h2
  obtain ⟨g0, hg0⟩ := hown.nn
  rcases h3 with e | e <;> exact ⟨_, e.trans (by first | exact hg0 | rfl)⟩

/-- the four bytes of a number -/
def num32 (n : Nat) (big : Bool) : List Nat := if big then [n / 16777216, n / 65536 % 256, n / 256 % 256, n % 256] else [n % 256, n / 256 % 256, n / 65536 % 256, n / 16777216]
theorem num32_length (n : Nat) (big : Bool) : (num32 n big).length = 4 := by unfold num32; cases big <;> rfl

theorem b4_lit (w : World) (a b c d : Nat) {base : Nat} (hb : base ≤ w.heap.size) : OwnB base (w.alloc (.cells #[.int .u8 (a : Int), .int .u8 (b : Int), .int .u8 (c : Int), .int .u8 (d : Int)] 5)) (.slice (some ⟨w.heap.size, 0, none⟩) 4 4) [a, b, c, d] := OwnB.lit w [a, b, c, d] hb (by simp)
set_option maxRecDepth 20000 in
set_option maxHeartbeats 1000000 in
theorem number32_c (n : Nat) (hn : n < 4294967296) (big : Bool) (w : World) : Calls Tryz.prog 23 #[.int .u32 (n : Int), .bool big] w (RetY w (num32 n big)) := by
  cases big
  · go_enter Tryz.func23, Tryz.ntmps23
    go_wp2_with fail
    go_ret
    exact ⟨.slice (some ⟨w.heap.size, 0, none⟩) 4 4, _, rfl, ext_of (show Kp w _ from (by repeat (first | (with_reducible exact Kp.refl _) | (with_reducible assumption) | (with_reducible apply Kp.ext) | (with_reducible apply Kp.alloc) | (with_reducible apply Kp.drew) | (with_reducible apply Kp.drewN) | (with_reducible refine Kp.setCell ?_ (by first | (dsimp only; omega) | (simp; omega) | (simp; done) | (simp [size_ext_eq]; omega)) _)))), b4_lit w (n % 256) (n / 256 % 256) (n / 65536 % 256) (n / 16777216) (Nat.le_refl _)⟩
  · go_enter Tryz.func23, Tryz.ntmps23
    go_wp2_with fail
    go_region
    all_goals go_wp2_with fail
    all_goals go_ret
    all_goals
      have h := b4_lit (base := w.heap.size) (w.alloc (.cells #[.int .u8 ((n % 256 : Nat) : Int), .int .u8 ((n / 256 % 256 : Nat) : Int), .int .u8 ((n / 65536 % 256 : Nat) : Int), .int .u8 ((n / 16777216 : Nat) : Int)] 5)) (n / 16777216) (n / 65536 % 256) (n / 256 % 256) (n % 256) (by simp)
      rw [World.size_alloc] at h
      exact ⟨.slice (some ⟨w.heap.size + 1, 0, none⟩) 4 4, _, rfl, ext_of (show Kp w _ from (by repeat (first | (with_reducible exact Kp.refl _) | (with_reducible assumption) | (with_reducible apply Kp.ext) | (with_reducible apply Kp.alloc) | (with_reducible apply Kp.drew) | (with_reducible apply Kp.drewN) | (with_reducible refine Kp.setCell ?_ (by first | (dsimp only; omega) | (simp; omega) | (simp; done) | (simp [size_ext_eq]; omega)) _)))), by first | exact h | exact OwnB.kp h (Kp.refl _).drew⟩
end Go.Proofs.YtobdohhabgnjiaaGreatDoor

set_option linter.all false
namespace Go.Proofs.YtobdohhabgnjiaaGreatDoor
open PubFl Go.RowKit

attribute [local go_sem] cell_ext frozen_ext ext_setCell cell_store size_ext_eq lt_p0 lt_p1 lt_p2 lt_p3 lt_p4 lt_p5 lt_p6 lt_p7 lt_p8 lt_p9 lt_p10 lt_p11 lt_p12 lt_p13 lt_p14 lt_p15 lt_p16 lt_p17 lt_p18 lt_p19 lt_p20 lt_p21 lt_p22 lt_p23 lt_p24 lt_p25 lt_p26 lt_p27 lt_p28 lt_p29 lt_p30 lt_p31 lt_p32 lt_q1 lt_q2 lt_q3 lt_q4 lt_q5 lt_q6 lt_q7 lt_q8 lt_q9 lt_q10 lt_q11 lt_q12 lt_q13 lt_q14 lt_q15 lt_q16 lt_q17 lt_q18 lt_q19 lt_q20 lt_q21 lt_q22 lt_q23 lt_q24 lt_q25 lt_q26 lt_q27 lt_q28 lt_q29 lt_q30 lt_q31 lt_q32 run_fop run_store_float
attribute [local go_sem high] cmp_eql cmp_neq cmp_lss cmp_leq cmp_gtr cmp_geq
attribute [local go_sem] x_bits

/-- the eight bytes of a number -/
def num64 (n : Nat) (big : Bool) : List Nat := if big then num32 (n / 4294967296) true ++ num32 (n % 4294967296) true else num32 (n % 4294967296) false ++ num32 (n / 4294967296) false
theorem num64_length (n : Nat) (big : Bool) : (num64 n big).length = 8 := by unfold num64; cases big <;> simp [num32_length]

set_option maxRecDepth 20000 in
set_option maxHeartbeats 1000000 in
theorem number64_false (n : Nat) (hn : n < 2 ^ 64) (w : World) : Calls Tryz.prog 38 #[.float .f64 n, .bool false] w (RetY w (num64 n false)) := by
  have h1 : ∀ w', Calls Tryz.prog 23 #[.int .u32 ((n : Int) % 4294967296), .bool false] w' (RetY w' (num32 (n % 4294967296) false)) := fun w' => by
    have h := number32_c (n % 4294967296) (Nat.mod_lt _ (by decide)) false w'
    rwa [show (((n % 4294967296 : Nat)) : Int) = (n : Int) % 4294967296 by omega] at h
  have h2 : ∀ w', Calls Tryz.prog 23 #[.int .u32 ((n : Int) / 4294967296), .bool false] w' (RetY w' (num32 (n / 4294967296) false)) := fun w' => by
    have h := number32_c (n / 4294967296) (by omega) false w'
    rwa [show (((n / 4294967296 : Nat)) : Int) = (n : Int) / 4294967296 by omega] at h
  have e : num64 n false = num32 (n % 4294967296) false ++ num32 (n / 4294967296) false := rfl
  rw [e]
  have l1 := num32_length (n % 4294967296) false
  have l2 := num32_length (n / 4294967296) false
  generalize num32 (n % 4294967296) false = lo at *
  generalize num32 (n / 4294967296) false = hi at *
  have H1 := Lib.hid h1
  have H2 := Lib.hid h2
  have L1 := Lib.hid l1
  have L2 := Lib.hid l2
  clear h1 h2 l1 l2 e
  go_enter Tryz.func38, Tryz.ntmps38
  go_wp2_with (first | (go_at_call 23; (with_reducible refine (H1.out _).mono ?_); rintro e w1 ⟨v1, u1, rfl, rfl, ho1⟩; obtain ⟨g1, cap1, hv1, _, _, _, _, _⟩ := ho1.form; rw [L1.out] at hv1; subst hv1; have O1 := Lib.hid ho1; clear ho1) | (go_at_call 23; (with_reducible refine (H2.out _).mono ?_); rintro e w2 ⟨v2, u2, rfl, rfl, ho2⟩; obtain ⟨g2, cap2, hv2, _, _, _, _, _⟩ := ho2.form; rw [L2.out] at hv2; subst hv2; have O2 := Lib.hid ho2; clear ho2) | (at_builtin; refine wpList_append_bytes rfl (.tmp 23) (.tmp 24) rfl w.heap.size _ lo rfl (OwnB.kp (OwnB.base O1.out ?c1) (by repeat (first | (with_reducible exact Kp.refl _) | (with_reducible assumption) | (with_reducible apply Kp.ext) | (with_reducible apply Kp.alloc) | (with_reducible apply Kp.drew) | (with_reducible apply Kp.drewN) | (with_reducible refine Kp.setCell ?_ (by first | (dsimp only; omega) | (simp; omega) | (simp; done) | (simp [size_ext_eq]; omega)) _)))) g2 0 _ 4 hi rfl L2.out.symm ?c2 ?c3 ?c4 ?c5 ?_))
  case c1 => simp [size_ext_eq]
  case c2 =>
    obtain ⟨hs, _, _, _, _, ha⟩ := O2.out.at
    exact ha.kp hs (by repeat (first | (with_reducible exact Kp.refl _) | (with_reducible assumption) | (with_reducible apply Kp.ext) | (with_reducible apply Kp.alloc) | (with_reducible apply Kp.drew) | (with_reducible apply Kp.drewN) | (with_reducible refine Kp.setCell ?_ (by first | (dsimp only; omega) | (simp; omega) | (simp; done) | (simp [size_ext_eq]; omega)) _)))
  case c3 => have := L1.out; have := L2.out; omega
  case c4 => have := L1.out; have := L2.out; omega
  case c5 => simp [size_ext_eq]; omega
  intro v' w' ho hb _
  have hk : Kp w w' := Below.trans (show Kp w _ from (by repeat (first | (with_reducible exact Kp.refl _) | (with_reducible assumption) | (with_reducible apply Kp.ext) | (with_reducible apply Kp.alloc) | (with_reducible apply Kp.drew) | (with_reducible apply Kp.drewN) | (with_reducible refine Kp.setCell ?_ (by first | (dsimp only; omega) | (simp; omega) | (simp; done) | (simp [size_ext_eq]; omega)) _)))) hb
  go_wp2_with fail
  go_ret
  exact ⟨_, _, rfl, ext_of hk, ho⟩
set_option maxRecDepth 20000 in
set_option maxHeartbeats 1000000 in
theorem number64_true (n : Nat) (hn : n < 2 ^ 64) (w : World) : Calls Tryz.prog 38 #[.float .f64 n, .bool true] w (RetY w (num64 n true)) := by
  have h1 : ∀ w', Calls Tryz.prog 23 #[.int .u32 ((n : Int) % 4294967296), .bool true] w' (RetY w' (num32 (n % 4294967296) true)) := fun w' => by
    have h := number32_c (n % 4294967296) (Nat.mod_lt _ (by decide)) true w'
    rwa [show (((n % 4294967296 : Nat)) : Int) = (n : Int) % 4294967296 by omega] at h
  have h2 : ∀ w', Calls Tryz.prog 23 #[.int .u32 ((n : Int) / 4294967296), .bool true] w' (RetY w' (num32 (n / 4294967296) true)) := fun w' => by
    have h := number32_c (n / 4294967296) (by omega) true w'
    rwa [show (((n / 4294967296 : Nat)) : Int) = (n : Int) / 4294967296 by omega] at h
  have e : num64 n true = num32 (n / 4294967296) true ++ num32 (n % 4294967296) true := rfl
  rw [e]
  have l1 := num32_length (n % 4294967296) true
  have l2 := num32_length (n / 4294967296) true
  generalize num32 (n % 4294967296) true = lo at *
  generalize num32 (n / 4294967296) true = hi at *
  have H1 := Lib.hid h1
  have H2 := Lib.hid h2
  have L1 := Lib.hid l1
  have L2 := Lib.hid l2
  clear h1 h2 l1 l2 e
  go_enter Tryz.func38, Tryz.ntmps38
  go_wp2_with (first | (go_at_call 23; (with_reducible refine (H1.out _).mono ?_); rintro e w1 ⟨v1, u1, rfl, rfl, ho1⟩; obtain ⟨g1, cap1, hv1, _, _, _, _, _⟩ := ho1.form; rw [L1.out] at hv1; subst hv1; have O1 := Lib.hid ho1; clear ho1) | (go_at_call 23; (with_reducible refine (H2.out _).mono ?_); rintro e w2 ⟨v2, u2, rfl, rfl, ho2⟩; obtain ⟨g2, cap2, hv2, _, _, _, _, _⟩ := ho2.form; rw [L2.out] at hv2; subst hv2; have O2 := Lib.hid ho2; clear ho2) | (at_builtin; refine wpList_append_bytes rfl (.tmp 20) (.tmp 21) rfl w.heap.size _ hi rfl (OwnB.kp (OwnB.base O2.out ?c1) (by repeat (first | (with_reducible exact Kp.refl _) | (with_reducible assumption) | (with_reducible apply Kp.ext) | (with_reducible apply Kp.alloc) | (with_reducible apply Kp.drew) | (with_reducible apply Kp.drewN) | (with_reducible refine Kp.setCell ?_ (by first | (dsimp only; omega) | (simp; omega) | (simp; done) | (simp [size_ext_eq]; omega)) _)))) g1 0 _ 4 lo rfl L1.out.symm ?c2 ?c3 ?c4 ?c5 ?_))
  case c1 => simp [size_ext_eq]
  case c2 =>
    obtain ⟨hs, _, _, _, _, ha⟩ := O1.out.at
    exact ha.kp hs (by repeat (first | (with_reducible exact Kp.refl _) | (with_reducible assumption) | (with_reducible apply Kp.ext) | (with_reducible apply Kp.alloc) | (with_reducible apply Kp.drew) | (with_reducible apply Kp.drewN) | (with_reducible refine Kp.setCell ?_ (by first | (dsimp only; omega) | (simp; omega) | (simp; done) | (simp [size_ext_eq]; omega)) _)))
  case c3 => have := L1.out; have := L2.out; omega
  case c4 => have := L1.out; have := L2.out; omega
  case c5 => simp [size_ext_eq]; omega
  intro v' w' ho hb _
  have hk : Kp w w' := Below.trans (show Kp w _ from (by repeat (first | (with_reducible exact Kp.refl _) | (with_reducible assumption) | (with_reducible apply Kp.ext) | (with_reducible apply Kp.alloc) | (with_reducible apply Kp.drew) | (with_reducible apply Kp.drewN) | (with_reducible refine Kp.setCell ?_ (by first | (dsimp only; omega) | (simp; omega) | (simp; done) | (simp [size_ext_eq]; omega)) _)))) hb
  go_wp2_with fail
  go_ret
  exact ⟨_, _, rfl, ext_of hk, ho⟩
theorem number64_c (n : Nat) (hn : n < 2 ^ 64) (big : Bool) (w : World) : Calls Tryz.prog 38 #[.float .f64 n, .bool big] w (RetY w (num64 n big)) := by
  cases big
  · exact number64_false n hn w
  · exact number64_true n hn w

/-- the bytes of points -/
def ptsForm (ps : List (Nat × Nat)) (big : Bool) : List Nat := ps.flatMap fun p => num64 p.1 big ++ num64 p.2 big
theorem ptsForm_snoc (ps : List (Nat × Nat)) (p : Nat × Nat) (big : Bool) : ptsForm (ps ++ [p]) big = ptsForm ps big ++ num64 p.1 big ++ num64 p.2 big := by
  unfold ptsForm; rw [List.flatMap_append]; simp
theorem ptsForm_length (ps : List (Nat × Nat)) (big : Bool) : (ptsForm ps big).length = ps.length * 16 := by
  induction ps with
  | nil => rfl
  | cons p ps ih =>
    have e : ptsForm (p :: ps) big = num64 p.1 big ++ num64 p.2 big ++ ptsForm ps big := rfl
    rw [e, List.length_append, List.length_append, num64_length, num64_length, ih, List.length_cons]
    omega

set_option maxRecDepth 20000 in
set_option maxHeartbeats 1000000 in
theorem pointsForm_c (a : Option Addr) (cap : Nat) (ps : List (Nat × Nat)) (hn : ps.length ≤ 100000) (w : World) (hs : PtsIn w a ps) (hb : Bits ps) (big : Bool) :
    Calls Tryz.prog 22 #[.slice a ps.length cap, .bool big] w (RetY w (ptsForm ps big)) := by
  have Hs := Lib.hid hs
  have Hb := Lib.hid hb
  clear hs hb
  go_enter Tryz.func22, Tryz.ntmps22
  go_wp2_with fail
  go_loopw [5, 11] (fun s5 s11 wr => ∃ k : Nat, k ≤ ps.length ∧ s11 = .int .i64 k ∧ Kp w wr ∧ OwnB w.heap.size wr s5 (ptsForm (ps.take k) big)) (fun _ s11 _ => ps.length - (intOf s11).toNat)
  case atStart => exact ⟨0, Nat.zero_le _, rfl, (by repeat (first | (with_reducible exact Kp.refl _) | (with_reducible assumption) | (with_reducible apply Kp.ext) | (with_reducible apply Kp.alloc) | (with_reducible apply Kp.drew) | (with_reducible apply Kp.drewN) | (with_reducible refine Kp.setCell ?_ (by first | (dsimp only; omega) | (simp; omega) | (simp; done) | (simp [size_ext_eq]; omega)) _))), OwnB.lit w [] (Nat.le_refl _) (by simp)⟩
  case round =>
    obtain ⟨k, hkn, rfl, hkp, hown⟩ := hrel
    by_cases hlt : k < ps.length
    · obtain ⟨b, off, rfl, hbl, hpt⟩ := Hs.out.cells (by omega)
      obtain ⟨e0, e1⟩ := hpt.kp hbl hkp k hlt
      obtain ⟨b0, b1⟩ := Hb.out k hlt
      have hsn : ptsForm (ps.take (k + 1)) big = ptsForm (ps.take k) big ++ num64 (ps[k]'hlt).1 big ++ num64 (ps[k]'hlt).2 big := by
        rw [List.take_succ_eq_append_getElem hlt, ptsForm_snoc]
      have hl : (ptsForm (ps.take k) big).length ≤ 1600000 := by
        rw [ptsForm_length]
        have := List.length_take_le k ps
        omega
      obtain ⟨⟨px, py⟩, hq⟩ : ∃ q, ps[k]'hlt = q := ⟨_, rfl⟩
      rw [hq] at e0 e1 b0 b1 hsn
      dsimp only at b0 b1 hsn
      have HX := Lib.hid (fun w' => number64_c px b0 big w')
      have HY := Lib.hid (fun w' => number64_c py b1 big w')
      have lx := num64_length px big
      have ly := num64_length py big
      generalize num64 px big = fx at *
      generalize num64 py big = fy at *
      generalize ptsForm (ps.take k) big = acc at *
      have Hsn := Lib.hid (hsn.trans (List.append_assoc _ _ _))
      have LX := Lib.hid lx
      have LY := Lib.hid ly
      have Hown := Lib.hid hown
      have hbk : b < wr.heap.size := Nat.lt_of_lt_of_le hbl hkp.size
      have hk1 : (k : Int) < (ps.length : Int) := by omega
      obtain ⟨r0, hr0, hr1, hr2⟩ := hown.row
      have hsz := hkp.size
      have Hr0 := Lib.hid hr0
      clear hq hsn lx ly hown hr0 hpt b0 b1
      go_wp2_with (first | (go_at_call 38; (with_reducible refine (HX.out _).mono ?_); rintro e w1 ⟨v1, u1, rfl, rfl, ho1⟩; obtain ⟨g1, cap1, hv1, _⟩ := ho1.form; rw [LX.out] at hv1; subst hv1; have O1 := Lib.hid ho1; clear ho1) | (at_builtin; refine wpList_append_bytes rfl (.tmp 15) (.tmp 19) rfl w.heap.size _ acc rfl (OwnB.kp Hown.out (by repeat (first | (with_reducible exact Kp.refl _) | (with_reducible assumption) | (with_reducible apply Kp.ext) | (with_reducible apply Kp.alloc) | (with_reducible apply Kp.drew) | (with_reducible apply Kp.drewN) | (with_reducible refine Kp.setCell ?_ (by first | (dsimp only; omega) | (simp; omega) | (simp; done) | (simp [size_ext_eq]; omega)) _)))) g1 0 _ 8 fx rfl LX.out.symm ?c2 ?c3 ?c4 ?c5 ?_))
      case c2 =>
        obtain ⟨hs, _, _, _, _, ha⟩ := O1.out.at
        exact ha.kp hs (by repeat (first | (with_reducible exact Kp.refl _) | (with_reducible assumption) | (with_reducible apply Kp.ext) | (with_reducible apply Kp.alloc) | (with_reducible apply Kp.drew) | (with_reducible apply Kp.drewN) | (with_reducible refine Kp.setCell ?_ (by first | (dsimp only; omega) | (simp; omega) | (simp; done) | (simp [size_ext_eq]; omega)) _)))
      case c3 => omega
      case c4 => have := LX.out; omega
      case c5 => simp [size_ext_eq]; omega
      intro v' w' ho hbw hgr
      have hk2 : Kp w w' := Below.trans (show Kp w _ from (by repeat (first | (with_reducible exact Kp.refl _) | (with_reducible assumption) | (with_reducible apply Kp.ext) | (with_reducible apply Kp.alloc) | (with_reducible apply Kp.drew) | (with_reducible apply Kp.drewN) | (with_reducible refine Kp.setCell ?_ (by first | (dsimp only; omega) | (simp; omega) | (simp; done) | (simp [size_ext_eq]; omega)) _)))) hbw
      have hcy : w'.cell? ⟨wr.heap.size, 1, none⟩ = some (.float .f64 py) := by
        refine (grown_cell hgr (by simp [size_ext_eq]; omega) (fun e => ?_)).trans (by simp [go_sem])
        rw [Hr0.out] at e
        injection e with e
        omega
      have hsz2 : wr.heap.size < w'.heap.size := by
        have := hgr.size
        simp [size_ext_eq] at this
        omega
      have Ho := Lib.hid ho
      clear ho hgr hbw O1
      go_wp2_with (first | (go_at_call 38; (with_reducible refine (HY.out _).mono ?_); rintro e w1 ⟨v1, u1, rfl, rfl, ho1⟩; obtain ⟨g1, cap1, hv1, _⟩ := ho1.form; rw [LY.out] at hv1; subst hv1; have O1 := Lib.hid ho1; clear ho1) | (at_builtin; refine wpList_append_bytes rfl (.tmp 21) (.tmp 25) rfl w.heap.size _ (acc ++ fx) rfl (OwnB.kp Ho.out (by repeat (first | (with_reducible exact Kp.refl _) | (with_reducible assumption) | (with_reducible apply Kp.ext) | (with_reducible apply Kp.alloc) | (with_reducible apply Kp.drew) | (with_reducible apply Kp.drewN) | (with_reducible refine Kp.setCell ?_ (by first | (dsimp only; omega) | (simp; omega) | (simp; done) | (simp [size_ext_eq]; omega)) _)))) g1 0 _ 8 fy rfl LY.out.symm ?d2 ?d3 ?d4 ?d5 ?_))
      case d2 =>
        obtain ⟨hs, _, _, _, _, ha⟩ := O1.out.at
        exact ha.kp hs (by repeat (first | (with_reducible exact Kp.refl _) | (with_reducible assumption) | (with_reducible apply Kp.ext) | (with_reducible apply Kp.alloc) | (with_reducible apply Kp.drew) | (with_reducible apply Kp.drewN) | (with_reducible refine Kp.setCell ?_ (by first | (dsimp only; omega) | (simp; omega) | (simp; done) | (simp [size_ext_eq]; omega)) _)))
      case d3 => rw [List.length_append]; have := LX.out; omega
      case d4 => have := LY.out; omega
      case d5 => simp [size_ext_eq]; omega
      intro v2 w2 ho2 hbw2 _
      have hk3 : Kp w w2 := Below.trans (show Kp w _ from (by repeat (first | (with_reducible exact Kp.refl _) | (with_reducible assumption) | (with_reducible apply Kp.ext) | (with_reducible apply Kp.alloc) | (with_reducible apply Kp.drew) | (with_reducible apply Kp.drewN) | (with_reducible refine Kp.setCell ?_ (by first | (dsimp only; omega) | (simp; omega) | (simp; done) | (simp [size_ext_eq]; omega)) _)))) hbw2
      rw [← Hsn.out] at ho2
      have Ho2 := Lib.hid ho2
      clear ho2 hbw2 O1
      go_wp2_with fail
      go_roundw
      case rel => exact ⟨k + 1, by omega, by go_num, hk3, Ho2.out⟩
      case measure => simp [intOf]; omega
    · obtain rfl : k = ps.length := by omega
      rw [List.take_of_length_le (Nat.le_refl _)] at hown
      have Hown := Lib.hid hown
      clear hown
      go_wp2_with fail
      go_ret
      exact ⟨_, _, rfl, ext_of hkp, Hown.out⟩
end Go.Proofs.YtobdohhabgnjiaaGreatDoor

set_option linter.all false
namespace Go.Proofs.YtobdohhabgnjiaaGreatDoor
open PubFl Go.RowKit

attribute [local go_sem] cell_ext frozen_ext ext_setCell cell_store size_ext_eq lt_p0 lt_p1 lt_p2 lt_p3 lt_p4 lt_p5 lt_p6 lt_p7 lt_p8 lt_p9 lt_p10 lt_p11 lt_p12 lt_p13 lt_p14 lt_p15 lt_p16 lt_p17 lt_p18 lt_p19 lt_p20 lt_p21 lt_p22 lt_p23 lt_p24 lt_p25 lt_p26 lt_p27 lt_p28 lt_p29 lt_p30 lt_p31 lt_p32 lt_q1 lt_q2 lt_q3 lt_q4 lt_q5 lt_q6 lt_q7 lt_q8 lt_q9 lt_q10 lt_q11 lt_q12 lt_q13 lt_q14 lt_q15 lt_q16 lt_q17 lt_q18 lt_q19 lt_q20 lt_q21 lt_q22 lt_q23 lt_q24 lt_q25 lt_q26 lt_q27 lt_q28 lt_q29 lt_q30 lt_q31 lt_q32 run_fop run_store_float
attribute [local go_sem high] cmp_eql cmp_neq cmp_lss cmp_leq cmp_gtr cmp_geq

/-- what a form begins with -/
def headB (k s : Nat) (big : Bool) : List Nat := (if big then 0 else 1) :: (if s = 0 then num32 k big else num32 (k + 536870912) big ++ num32 s big)
theorem headB_length (k s : Nat) (big : Bool) : (headB k s big).length = if s = 0 then 5 else 9 := by
  unfold headB
  by_cases h : s = 0 <;> simp [h, num32_length]
theorem b1_lit (w : World) (a : Nat) {base : Nat} (hb : base ≤ w.heap.size) : OwnB base (w.alloc (.cells #[.int .u8 (a : Int)] 5)) (.slice (some ⟨w.heap.size, 0, none⟩) 1 1) [a] := OwnB.lit w [a] hb (by simp)

theorem or_kind (k : Nat) (h1 : 1 ≤ k) (h7 : k ≤ 7) : bits BinOp.or IntKind.u32 (k : Int) 536870912 = (k : Int) + 536870912 := by
  rcases (show k = 1 ∨ k = 2 ∨ k = 3 ∨ k = 4 ∨ k = 5 ∨ k = 6 ∨ k = 7 by omega) with rfl | rfl | rfl | rfl | rfl | rfl | rfl <;> decide +kernel

set_option maxRecDepth 20000 in
set_option maxHeartbeats 1000000 in
theorem head0_false (k : Nat) (h1 : 1 ≤ k) (h7 : k ≤ 7) (w : World) : Calls Tryz.prog 21 #[.int .i64 (k : Int), .int .i64 0, .bool false] w (RetY w (1 :: num32 k false)) := by
  have hN : ∀ w', Calls Tryz.prog 23 #[.int .u32 (k : Int), .bool false] w' (RetY w' (num32 k false)) := fun w' => number32_c k (by omega) false w'
  have l1 := num32_length k false
  generalize num32 k false = lo at *
  have HN := Lib.hid hN
  have L1 := Lib.hid l1
  clear hN l1
  have HB := Lib.hid (show OwnB w.heap.size (w.alloc (.cells #[.int .u8 1] 5)) (.slice (some ⟨w.heap.size, 0, none⟩) 1 1) [1] from b1_lit w 1 (Nat.le_refl _))
  go_enter Tryz.func21, Tryz.ntmps21
  go_wp2_with (first | (go_at_call 23; (with_reducible refine (HN.out _).mono ?_); rintro e w1 ⟨v1, u1, rfl, rfl, ho1⟩; obtain ⟨g1, cap1, hv1, _⟩ := ho1.form; rw [L1.out] at hv1; subst hv1; have O1 := Lib.hid ho1; clear ho1) | (at_builtin; refine wpList_append_bytes rfl (.tmp 16) (.tmp 19) rfl w.heap.size _ [1] rfl (OwnB.kp HB.out (by repeat (first | (with_reducible exact Kp.refl _) | (with_reducible assumption) | (with_reducible apply Kp.ext) | (with_reducible apply Kp.alloc) | (with_reducible apply Kp.drew) | (with_reducible apply Kp.drewN) | (with_reducible refine Kp.setCell ?_ (by first | (dsimp only; omega) | (simp; omega) | (simp; done) | (simp [size_ext_eq]; omega)) _)))) g1 0 _ 4 lo rfl L1.out.symm ?c2 ?c3 ?c4 ?c5 ?_))
  case c2 =>
    obtain ⟨hs, _, _, _, _, ha⟩ := O1.out.at
    exact ha.kp hs (by repeat (first | (with_reducible exact Kp.refl _) | (with_reducible assumption) | (with_reducible apply Kp.ext) | (with_reducible apply Kp.alloc) | (with_reducible apply Kp.drew) | (with_reducible apply Kp.drewN) | (with_reducible refine Kp.setCell ?_ (by first | (dsimp only; omega) | (simp; omega) | (simp; done) | (simp [size_ext_eq]; omega)) _)))
  case c3 => decide
  case c4 => have := L1.out; omega
  case c5 => simp [size_ext_eq]; omega
  intro v' w' ho hb _
  have hk : Kp w w' := Below.trans (show Kp w _ from (by repeat (first | (with_reducible exact Kp.refl _) | (with_reducible assumption) | (with_reducible apply Kp.ext) | (with_reducible apply Kp.alloc) | (with_reducible apply Kp.drew) | (with_reducible apply Kp.drewN) | (with_reducible refine Kp.setCell ?_ (by first | (dsimp only; omega) | (simp; omega) | (simp; done) | (simp [size_ext_eq]; omega)) _)))) hb
  go_wp2_with fail
  go_ret
  exact ⟨_, _, rfl, ext_of hk, ho⟩

set_option maxRecDepth 20000 in
set_option maxHeartbeats 1000000 in
theorem heads_false (k : Nat) (h1 : 1 ≤ k) (h7 : k ≤ 7) (s : Nat) (h0 : 0 < s) (hs : s ≤ 999999) (w : World) : Calls Tryz.prog 21 #[.int .i64 (k : Int), .int .i64 (s : Int), .bool false] w (RetY w (1 :: (num32 (k + 536870912) false ++ num32 s false))) := by
  have hN : ∀ w', Calls Tryz.prog 23 #[.int .u32 ((k : Int) + 536870912), .bool false] w' (RetY w' (num32 (k + 536870912) false)) := fun w' => number32_c (k + 536870912) (by omega) false w'
  have hM : ∀ w', Calls Tryz.prog 23 #[.int .u32 (s : Int), .bool false] w' (RetY w' (num32 s false)) := fun w' => number32_c s (by omega) false w'
  have l1 := num32_length (k + 536870912) false
  have l2 := num32_length s false
  generalize num32 (k + 536870912) false = lo at *
  generalize num32 s false = hi at *
  have HN := Lib.hid hN
  have HM := Lib.hid hM
  have L1 := Lib.hid l1
  have L2 := Lib.hid l2
  have e1 : ((s : Int) == 0) = false := beq_eq_false_iff_ne.2 (by omega)
  have e2 : (s = 0) = False := eq_false (by omega)
  have e3 := or_kind k h1 h7
  clear hN hM l1 l2
  have HB := Lib.hid (show OwnB w.heap.size (w.alloc (.cells #[.int .u8 1] 5)) (.slice (some ⟨w.heap.size, 0, none⟩) 1 1) [1] from b1_lit w 1 (Nat.le_refl _))
  go_enter Tryz.func21, Tryz.ntmps21
  go_wp2_with (first | (go_at_call 23; (with_reducible refine (HN.out _).mono ?_); rintro e w1 ⟨v1, u1, rfl, rfl, ho1⟩; obtain ⟨g1, cap1, hv1, _⟩ := ho1.form; rw [L1.out] at hv1; subst hv1; have O1 := Lib.hid ho1; clear ho1) | (at_builtin; refine wpList_append_bytes rfl (.tmp 22) (.tmp 26) rfl w.heap.size _ [1] rfl (OwnB.kp HB.out (by repeat (first | (with_reducible exact Kp.refl _) | (with_reducible assumption) | (with_reducible apply Kp.ext) | (with_reducible apply Kp.alloc) | (with_reducible apply Kp.drew) | (with_reducible apply Kp.drewN) | (with_reducible refine Kp.setCell ?_ (by first | (dsimp only; omega) | (simp; omega) | (simp; done) | (simp [size_ext_eq]; omega)) _)))) g1 0 _ 4 lo rfl L1.out.symm ?c2 ?c3 ?c4 ?c5 ?_))
  case c2 =>
    obtain ⟨hs, _, _, _, _, ha⟩ := O1.out.at
    exact ha.kp hs (by repeat (first | (with_reducible exact Kp.refl _) | (with_reducible assumption) | (with_reducible apply Kp.ext) | (with_reducible apply Kp.alloc) | (with_reducible apply Kp.drew) | (with_reducible apply Kp.drewN) | (with_reducible refine Kp.setCell ?_ (by first | (dsimp only; omega) | (simp; omega) | (simp; done) | (simp [size_ext_eq]; omega)) _)))
  case c3 => decide
  case c4 => have := L1.out; omega
  case c5 => simp [size_ext_eq]; omega
  intro v' w' ho hb _
  have hk : Kp w w' := Below.trans (show Kp w _ from (by repeat (first | (with_reducible exact Kp.refl _) | (with_reducible assumption) | (with_reducible apply Kp.ext) | (with_reducible apply Kp.alloc) | (with_reducible apply Kp.drew) | (with_reducible apply Kp.drewN) | (with_reducible refine Kp.setCell ?_ (by first | (dsimp only; omega) | (simp; omega) | (simp; done) | (simp [size_ext_eq]; omega)) _)))) hb
  have Ho := Lib.hid ho
  have hsz := hk.size
  clear ho hb O1 e3
  go_wp2_with (first | (go_at_call 23; (with_reducible refine (HM.out _).mono ?_); rintro e w1 ⟨v1, u1, rfl, rfl, ho1⟩; obtain ⟨g1, cap1, hv1, _⟩ := ho1.form; rw [L2.out] at hv1; subst hv1; have O1 := Lib.hid ho1; clear ho1) | (at_builtin; refine wpList_append_bytes rfl (.tmp 28) (.tmp 32) rfl w.heap.size _ ([1] ++ lo) rfl (OwnB.kp Ho.out (by repeat (first | (with_reducible exact Kp.refl _) | (with_reducible assumption) | (with_reducible apply Kp.ext) | (with_reducible apply Kp.alloc) | (with_reducible apply Kp.drew) | (with_reducible apply Kp.drewN) | (with_reducible refine Kp.setCell ?_ (by first | (dsimp only; omega) | (simp; omega) | (simp; done) | (simp [size_ext_eq]; omega)) _)))) g1 0 _ 4 hi rfl L2.out.symm ?d2 ?d3 ?d4 ?d5 ?_))
  case d2 =>
    obtain ⟨hs, _, _, _, _, ha⟩ := O1.out.at
    exact ha.kp hs (by repeat (first | (with_reducible exact Kp.refl _) | (with_reducible assumption) | (with_reducible apply Kp.ext) | (with_reducible apply Kp.alloc) | (with_reducible apply Kp.drew) | (with_reducible apply Kp.drewN) | (with_reducible refine Kp.setCell ?_ (by first | (dsimp only; omega) | (simp; omega) | (simp; done) | (simp [size_ext_eq]; omega)) _)))
  case d3 => rw [List.length_append]; have := L1.out; simp; omega
  case d4 => have := L2.out; omega
  case d5 => simp [size_ext_eq]; omega
  intro v2 w2 ho2 hb2 _
  have hk2 : Kp w w2 := Below.trans (show Kp w _ from (by repeat (first | (with_reducible exact Kp.refl _) | (with_reducible assumption) | (with_reducible apply Kp.ext) | (with_reducible apply Kp.alloc) | (with_reducible apply Kp.drew) | (with_reducible apply Kp.drewN) | (with_reducible refine Kp.setCell ?_ (by first | (dsimp only; omega) | (simp; omega) | (simp; done) | (simp [size_ext_eq]; omega)) _)))) hb2
  have Ho2 := Lib.hid ho2
  clear ho2 hb2 O1
  go_wp2_with fail
  go_ret
  refine ⟨_, _, rfl, ext_of hk2, ?_⟩
  have h := Ho2.out
  simpa using h

set_option maxRecDepth 20000 in
set_option maxHeartbeats 1000000 in
theorem head0_true (k : Nat) (h1 : 1 ≤ k) (h7 : k ≤ 7) (w : World) : Calls Tryz.prog 21 #[.int .i64 (k : Int), .int .i64 0, .bool true] w (RetY w (0 :: num32 k true)) := by
  have hN : ∀ w', Calls Tryz.prog 23 #[.int .u32 (k : Int), .bool true] w' (RetY w' (num32 k true)) := fun w' => number32_c k (by omega) true w'
  have l1 := num32_length k true
  generalize num32 k true = lo at *
  have HN := Lib.hid hN
  have L1 := Lib.hid l1
  clear hN l1
  have HB := Lib.hid (show OwnB w.heap.size (w.alloc (.cells #[.int .u8 0] 5)) (.slice (some ⟨w.heap.size, 0, none⟩) 1 1) [0] from b1_lit w 0 (Nat.le_refl _))
  go_enter Tryz.func21, Tryz.ntmps21
  go_wp2_with (first | (go_at_call 23; (with_reducible refine (HN.out _).mono ?_); rintro e w1 ⟨v1, u1, rfl, rfl, ho1⟩; obtain ⟨g1, cap1, hv1, _⟩ := ho1.form; rw [L1.out] at hv1; subst hv1; have O1 := Lib.hid ho1; clear ho1) | (at_builtin; refine wpList_append_bytes rfl (.tmp 16) (.tmp 19) rfl w.heap.size _ [0] rfl (OwnB.kp HB.out (by repeat (first | (with_reducible exact Kp.refl _) | (with_reducible assumption) | (with_reducible apply Kp.ext) | (with_reducible apply Kp.alloc) | (with_reducible apply Kp.drew) | (with_reducible apply Kp.drewN) | (with_reducible refine Kp.setCell ?_ (by first | (dsimp only; omega) | (simp; omega) | (simp; done) | (simp [size_ext_eq]; omega)) _)))) g1 0 _ 4 lo rfl L1.out.symm ?c2 ?c3 ?c4 ?c5 ?_))
  case c2 =>
    obtain ⟨hs, _, _, _, _, ha⟩ := O1.out.at
    exact ha.kp hs (by repeat (first | (with_reducible exact Kp.refl _) | (with_reducible assumption) | (with_reducible apply Kp.ext) | (with_reducible apply Kp.alloc) | (with_reducible apply Kp.drew) | (with_reducible apply Kp.drewN) | (with_reducible refine Kp.setCell ?_ (by first | (dsimp only; omega) | (simp; omega) | (simp; done) | (simp [size_ext_eq]; omega)) _)))
  case c3 => decide
  case c4 => have := L1.out; omega
  case c5 => simp [size_ext_eq]; omega
  intro v' w' ho hb _
  have hk : Kp w w' := Below.trans (show Kp w _ from (by repeat (first | (with_reducible exact Kp.refl _) | (with_reducible assumption) | (with_reducible apply Kp.ext) | (with_reducible apply Kp.alloc) | (with_reducible apply Kp.drew) | (with_reducible apply Kp.drewN) | (with_reducible refine Kp.setCell ?_ (by first | (dsimp only; omega) | (simp; omega) | (simp; done) | (simp [size_ext_eq]; omega)) _)))) hb
  go_wp2_with fail
  go_ret
  exact ⟨_, _, rfl, ext_of hk, ho⟩

set_option maxRecDepth 20000 in
set_option maxHeartbeats 1000000 in
theorem heads_true (k : Nat) (h1 : 1 ≤ k) (h7 : k ≤ 7) (s : Nat) (h0 : 0 < s) (hs : s ≤ 999999) (w : World) : Calls Tryz.prog 21 #[.int .i64 (k : Int), .int .i64 (s : Int), .bool true] w (RetY w (0 :: (num32 (k + 536870912) true ++ num32 s true))) := by
  have hN : ∀ w', Calls Tryz.prog 23 #[.int .u32 ((k : Int) + 536870912), .bool true] w' (RetY w' (num32 (k + 536870912) true)) := fun w' => number32_c (k + 536870912) (by omega) true w'
  have hM : ∀ w', Calls Tryz.prog 23 #[.int .u32 (s : Int), .bool true] w' (RetY w' (num32 s true)) := fun w' => number32_c s (by omega) true w'
  have l1 := num32_length (k + 536870912) true
  have l2 := num32_length s true
  generalize num32 (k + 536870912) true = lo at *
  generalize num32 s true = hi at *
  have HN := Lib.hid hN
  have HM := Lib.hid hM
  have L1 := Lib.hid l1
  have L2 := Lib.hid l2
  have e1 : ((s : Int) == 0) = false := beq_eq_false_iff_ne.2 (by omega)
  have e2 : (s = 0) = False := eq_false (by omega)
  have e3 := or_kind k h1 h7
  clear hN hM l1 l2
  have HB := Lib.hid (show OwnB w.heap.size (w.alloc (.cells #[.int .u8 0] 5)) (.slice (some ⟨w.heap.size, 0, none⟩) 1 1) [0] from b1_lit w 0 (Nat.le_refl _))
  go_enter Tryz.func21, Tryz.ntmps21
  go_wp2_with (first | (go_at_call 23; (with_reducible refine (HN.out _).mono ?_); rintro e w1 ⟨v1, u1, rfl, rfl, ho1⟩; obtain ⟨g1, cap1, hv1, _⟩ := ho1.form; rw [L1.out] at hv1; subst hv1; have O1 := Lib.hid ho1; clear ho1) | (at_builtin; refine wpList_append_bytes rfl (.tmp 22) (.tmp 26) rfl w.heap.size _ [0] rfl (OwnB.kp HB.out (by repeat (first | (with_reducible exact Kp.refl _) | (with_reducible assumption) | (with_reducible apply Kp.ext) | (with_reducible apply Kp.alloc) | (with_reducible apply Kp.drew) | (with_reducible apply Kp.drewN) | (with_reducible refine Kp.setCell ?_ (by first | (dsimp only; omega) | (simp; omega) | (simp; done) | (simp [size_ext_eq]; omega)) _)))) g1 0 _ 4 lo rfl L1.out.symm ?c2 ?c3 ?c4 ?c5 ?_))
  case c2 =>
    obtain ⟨hs, _, _, _, _, ha⟩ := O1.out.at
    exact ha.kp hs (by repeat (first | (with_reducible exact Kp.refl _) | (with_reducible assumption) | (with_reducible apply Kp.ext) | (with_reducible apply Kp.alloc) | (with_reducible apply Kp.drew) | (with_reducible apply Kp.drewN) | (with_reducible refine Kp.setCell ?_ (by first | (dsimp only; omega) | (simp; omega) | (simp; done) | (simp [size_ext_eq]; omega)) _)))
  case c3 => decide
  case c4 => have := L1.out; omega
  case c5 => simp [size_ext_eq]; omega
  intro v' w' ho hb _
  have hk : Kp w w' := Below.trans (show Kp w _ from (by repeat (first | (with_reducible exact Kp.refl _) | (with_reducible assumption) | (with_reducible apply Kp.ext) | (with_reducible apply Kp.alloc) | (with_reducible apply Kp.drew) | (with_reducible apply Kp.drewN) | (with_reducible refine Kp.setCell ?_ (by first | (dsimp only; omega) | (simp; omega) | (simp; done) | (simp [size_ext_eq]; omega)) _)))) hb
  have Ho := Lib.hid ho
  have hsz := hk.size
  clear ho hb O1 e3
  go_wp2_with (first | (go_at_call 23; (with_reducible refine (HM.out _).mono ?_); rintro e w1 ⟨v1, u1, rfl, rfl, ho1⟩; obtain ⟨g1, cap1, hv1, _⟩ := ho1.form; rw [L2.out] at hv1; subst hv1; have O1 := Lib.hid ho1; clear ho1) | (at_builtin; refine wpList_append_bytes rfl (.tmp 28) (.tmp 32) rfl w.heap.size _ ([0] ++ lo) rfl (OwnB.kp Ho.out (by repeat (first | (with_reducible exact Kp.refl _) | (with_reducible assumption) | (with_reducible apply Kp.ext) | (with_reducible apply Kp.alloc) | (with_reducible apply Kp.drew) | (with_reducible apply Kp.drewN) | (with_reducible refine Kp.setCell ?_ (by first | (dsimp only; omega) | (simp; omega) | (simp; done) | (simp [size_ext_eq]; omega)) _)))) g1 0 _ 4 hi rfl L2.out.symm ?d2 ?d3 ?d4 ?d5 ?_))
  case d2 =>
    obtain ⟨hs, _, _, _, _, ha⟩ := O1.out.at
    exact ha.kp hs (by repeat (first | (with_reducible exact Kp.refl _) | (with_reducible assumption) | (with_reducible apply Kp.ext) | (with_reducible apply Kp.alloc) | (with_reducible apply Kp.drew) | (with_reducible apply Kp.drewN) | (with_reducible refine Kp.setCell ?_ (by first | (dsimp only; omega) | (simp; omega) | (simp; done) | (simp [size_ext_eq]; omega)) _)))
  case d3 => rw [List.length_append]; have := L1.out; simp; omega
  case d4 => have := L2.out; omega
  case d5 => simp [size_ext_eq]; omega
  intro v2 w2 ho2 hb2 _
  have hk2 : Kp w w2 := Below.trans (show Kp w _ from (by repeat (first | (with_reducible exact Kp.refl _) | (with_reducible assumption) | (with_reducible apply Kp.ext) | (with_reducible apply Kp.alloc) | (with_reducible apply Kp.drew) | (with_reducible apply Kp.drewN) | (with_reducible refine Kp.setCell ?_ (by first | (dsimp only; omega) | (simp; omega) | (simp; done) | (simp [size_ext_eq]; omega)) _)))) hb2
  have Ho2 := Lib.hid ho2
  clear ho2 hb2 O1
  go_wp2_with fail
  go_ret
  refine ⟨_, _, rfl, ext_of hk2, ?_⟩
  have h := Ho2.out
  simpa using h

theorem headB_00 (k : Nat) : headB k 0 false = 1 :: num32 k false := by unfold headB; simp
theorem headB_01 (k : Nat) : headB k 0 true = 0 :: num32 k true := by unfold headB; simp
theorem headB_10 (k s : Nat) (h : s ≠ 0) : headB k s false = 1 :: (num32 (k + 536870912) false ++ num32 s false) := by unfold headB; rw [if_neg h]; simp
theorem headB_11 (k s : Nat) (h : s ≠ 0) : headB k s true = 0 :: (num32 (k + 536870912) true ++ num32 s true) := by unfold headB; rw [if_neg h]; simp
theorem head_c (k : Nat) (h1 : 1 ≤ k) (h7 : k ≤ 7) (s : Nat) (hs : s ≤ 999999) (big : Bool) (w : World) : Calls Tryz.prog 21 #[.int .i64 (k : Int), .int .i64 (s : Int), .bool big] w (RetY w (headB k s big)) := by
  by_cases h0 : s = 0
  · subst h0
    cases big
    · rw [headB_00]; exact head0_false k h1 h7 w
    · rw [headB_01]; exact head0_true k h1 h7 w
  · cases big
    · rw [headB_10 k s h0]; exact heads_false k h1 h7 s (by omega) hs w
    · rw [headB_11 k s h0]; exact heads_true k h1 h7 s (by omega) hs w

end Go.Proofs.YtobdohhabgnjiaaGreatDoor

set_option linter.all false
namespace Go.Proofs.YtobdohhabgnjiaaGreatDoor
open PubFl Go.RowKit

attribute [local go_sem] cell_ext frozen_ext ext_setCell cell_store size_ext_eq lt_p0 lt_p1 lt_p2 lt_p3 lt_p4 lt_p5 lt_p6 lt_p7 lt_p8 lt_p9 lt_p10 lt_p11 lt_p12 lt_p13 lt_p14 lt_p15 lt_p16 lt_p17 lt_p18 lt_p19 lt_p20 lt_p21 lt_p22 lt_p23 lt_p24 lt_p25 lt_p26 lt_p27 lt_p28 lt_p29 lt_p30 lt_p31 lt_p32 lt_q1 lt_q2 lt_q3 lt_q4 lt_q5 lt_q6 lt_q7 lt_q8 lt_q9 lt_q10 lt_q11 lt_q12 lt_q13 lt_q14 lt_q15 lt_q16 lt_q17 lt_q18 lt_q19 lt_q20 lt_q21 lt_q22 lt_q23 lt_q24 lt_q25 lt_q26 lt_q27 lt_q28 lt_q29 lt_q30 lt_q31 lt_q32 run_fop run_store_float
attribute [local go_sem high] cmp_eql cmp_neq cmp_lss cmp_leq cmp_gtr cmp_geq


set_option maxRecDepth 20000 in
set_option maxHeartbeats 1000000 in
theorem form1_c (s : Nat) (hs : s ≤ 999999) (big turns : Bool) (ps : List (Nat × Nat)) (h300 : ps.length ≤ 300) (L off cap : Nat) (a2 : Option Addr) (n2 c2 : Nat) (a' : Option Addr) (cap' : Nat) (w : World) (hL : L < w.heap.size)
    (hc : w.cell? ⟨L, off, none⟩ = some (.slice a' ps.length cap')) (hin : PtsIn w a' ps) (hb : Bits ps) :
    Calls Tryz.prog 7 #[.agg #[.int .i64 1, .slice (some ⟨L, off, none⟩) 1 cap, .slice a2 n2 c2], .int .i64 (s : Int), .bool big, .bool turns] w (RetY w (headB 1 s big ++ ptsForm ps big)) := by
  have HH : Hid (∀ w', Calls Tryz.prog 21 #[.int .i64 1, .int .i64 (s : Int), .bool big] w' (RetY w' (headB 1 s big))) := Lib.hid (fun w' => head_c 1 (by decide) (by decide) s hs big w')
  have HP := Lib.hid (fun w' (hk : Kp w w') => pointsForm_c a' cap' ps (by omega) w' (hin.kp hk) hb big)
  obtain ⟨n, hn⟩ : ∃ n, ps.length = n := ⟨_, rfl⟩
  rw [hn] at hc HP
  have l1 := headB_length 1 s big
  have l2 := ptsForm_length ps big
  rw [hn] at l2 h300
  generalize headB 1 s big = hd at *
  generalize ptsForm ps big = pf at *
  have l1' : hd.length ≤ 9 := by rw [l1]; split <;> omega
  have L1 := Lib.hid l1'
  have L2 := Lib.hid l2
  have L3 := h300
  clear hin hb l1 l1' l2 hn
  go_enter Tryz.func7, Tryz.ntmps7
  go_wp2_with fail
  have hB := Box3.new w (.int .i64 1) (.slice (some ⟨L, off, none⟩) 1 cap) (.slice a2 n2 c2) 30
  have hk0 := (Kp.refl w).alloc (.cells #[.int .i64 1, .slice (some ⟨L, off, none⟩) 1 cap, .slice a2 n2 c2] 30)
  generalize w.alloc (.cells #[.int .i64 1, .slice (some ⟨L, off, none⟩) 1 cap, .slice a2 n2 c2] 30) = W at *
  obtain ⟨i0, b0, b1, b2⟩ := id hB
  have hc' := Kp.cell hk0 hc hL
  have hL' := Nat.lt_of_lt_of_le hL hk0.size
  clear hc hL
  go_wp2_with (first | (go_at_call 21; (with_reducible refine (HH.out _).mono ?_); rintro e w1 ⟨v1, u1, rfl, rfl, ho1⟩; obtain ⟨g1, cap1, rfl, _⟩ := ho1.form; have O1 := Lib.hid ho1; clear ho1) | (go_at_call 22; (with_reducible refine (HP.out _ (by repeat (first | (with_reducible exact Kp.refl _) | (with_reducible assumption) | (with_reducible apply Kp.ext) | (with_reducible apply Kp.alloc) | (with_reducible apply Kp.drew) | (with_reducible apply Kp.drewN) | (with_reducible refine Kp.setCell ?_ (by first | (dsimp only; omega) | (simp; omega) | (simp; done) | (simp [size_ext_eq]; omega)) _)))).mono ?_); rintro e w1 ⟨v1, u1, rfl, rfl, ho1⟩; obtain ⟨g2, cap2, rfl, _⟩ := ho1.form; have O2 := Lib.hid ho1; clear ho1) | (at_builtin; refine wpList_append_bytes rfl (.tmp 31) (.tmp 37) rfl W.heap.size _ (hd) rfl (OwnB.kp O1.out (by repeat (first | (with_reducible exact Kp.refl _) | (with_reducible assumption) | (with_reducible apply Kp.ext) | (with_reducible apply Kp.alloc) | (with_reducible apply Kp.drew) | (with_reducible apply Kp.drewN) | (with_reducible refine Kp.setCell ?_ (by first | (dsimp only; omega) | (simp; omega) | (simp; done) | (simp [size_ext_eq]; omega)) _)))) g2 0 _ _ (pf) rfl rfl ?c2 ?c3 ?c4 ?c5 ?_))
  case c2 =>
    obtain ⟨hs, _, _, _, _, ha⟩ := O2.out.at
    exact ha.kp hs (by repeat (first | (with_reducible exact Kp.refl _) | (with_reducible assumption) | (with_reducible apply Kp.ext) | (with_reducible apply Kp.alloc) | (with_reducible apply Kp.drew) | (with_reducible apply Kp.drewN) | (with_reducible refine Kp.setCell ?_ (by first | (dsimp only; omega) | (simp; omega) | (simp; done) | (simp [size_ext_eq]; omega)) _)))
  case c3 => have := L1.out; have := L2.out; omega
  case c4 => have := L1.out; have := L2.out; omega
  case c5 => simp [size_ext_eq]; first | done | omega
  intro v' w' ho hbw _
  have hk : Kp w w' := hk0.trans (Below.trans (show Kp W _ from (by repeat (first | (with_reducible exact Kp.refl _) | (with_reducible assumption) | (with_reducible apply Kp.ext) | (with_reducible apply Kp.alloc) | (with_reducible apply Kp.drew) | (with_reducible apply Kp.drewN) | (with_reducible refine Kp.setCell ?_ (by first | (dsimp only; omega) | (simp; omega) | (simp; done) | (simp [size_ext_eq]; omega)) _)))) hbw)
  have Ho := Lib.hid (OwnB.base ho hk0.size)
  clear ho
  go_wp2_with fail
  go_ret
  exact ⟨_, _, rfl, ext_of hk, Ho.out⟩


set_option maxRecDepth 20000 in
set_option maxHeartbeats 1000000 in
theorem form2_c (s : Nat) (hs : s ≤ 999999) (big turns : Bool) (ps : List (Nat × Nat)) (h300 : ps.length ≤ 300) (L off cap : Nat) (a2 : Option Addr) (n2 c2 : Nat) (a' : Option Addr) (cap' : Nat) (w : World) (hL : L < w.heap.size)
    (hc : w.cell? ⟨L, off, none⟩ = some (.slice a' ps.length cap')) (hin : PtsIn w a' ps) (hb : Bits ps) :
    Calls Tryz.prog 7 #[.agg #[.int .i64 2, .slice (some ⟨L, off, none⟩) 1 cap, .slice a2 n2 c2], .int .i64 (s : Int), .bool big, .bool turns] w (RetY w (headB 2 s big ++ num32 ps.length big ++ ptsForm ps big)) := by
  have HH : Hid (∀ w', Calls Tryz.prog 21 #[.int .i64 2, .int .i64 (s : Int), .bool big] w' (RetY w' (headB 2 s big))) := Lib.hid (fun w' => head_c 2 (by decide) (by decide) s hs big w')
  have HP := Lib.hid (fun w' (hk : Kp w w') => pointsForm_c a' cap' ps (by omega) w' (hin.kp hk) hb big)
  have HN := Lib.hid (fun w' => number32_c ps.length (by omega) big w')
  have l3 := num32_length ps.length big
  obtain ⟨n, hn⟩ : ∃ n, ps.length = n := ⟨_, rfl⟩
  rw [hn] at hc HP HN l3 ⊢
  have l1 := headB_length 2 s big
  have l2 := ptsForm_length ps big
  rw [hn] at l2 h300
  generalize headB 2 s big = hd at *
  generalize ptsForm ps big = pf at *
  have l1' : hd.length ≤ 9 := by rw [l1]; split <;> omega
  generalize num32 n big = nb at *
  have L4 := Lib.hid l3
  clear l3
  have L1 := Lib.hid l1'
  have L2 := Lib.hid l2
  have L3 := h300
  clear hin hb l1 l1' l2 hn
  go_enter Tryz.func7, Tryz.ntmps7
  go_wp2_with fail
  have hB := Box3.new w (.int .i64 2) (.slice (some ⟨L, off, none⟩) 1 cap) (.slice a2 n2 c2) 30
  have hk0 := (Kp.refl w).alloc (.cells #[.int .i64 2, .slice (some ⟨L, off, none⟩) 1 cap, .slice a2 n2 c2] 30)
  generalize w.alloc (.cells #[.int .i64 2, .slice (some ⟨L, off, none⟩) 1 cap, .slice a2 n2 c2] 30) = W at *
  obtain ⟨i0, b0, b1, b2⟩ := id hB
  have hc' := Kp.cell hk0 hc hL
  have hL' := Nat.lt_of_lt_of_le hL hk0.size
  clear hc hL
  go_wp2_with (first | (go_at_call 21; (with_reducible refine (HH.out _).mono ?_); rintro e w1 ⟨v1, u1, rfl, rfl, ho1⟩; obtain ⟨g1, cap1, rfl, _⟩ := ho1.form; have O1 := Lib.hid ho1; clear ho1) | (go_at_call 23; (with_reducible refine (HN.out _).mono ?_); rintro e w1 ⟨v1, u1, rfl, rfl, ho1⟩; obtain ⟨g2, cap2, rfl, _⟩ := ho1.form; have O2 := Lib.hid ho1; clear ho1) | (at_builtin; refine wpList_append_bytes rfl (.tmp 41) (.tmp 49) rfl W.heap.size _ (hd) rfl (OwnB.kp O1.out (by repeat (first | (with_reducible exact Kp.refl _) | (with_reducible assumption) | (with_reducible apply Kp.ext) | (with_reducible apply Kp.alloc) | (with_reducible apply Kp.drew) | (with_reducible apply Kp.drewN) | (with_reducible refine Kp.setCell ?_ (by first | (dsimp only; omega) | (simp; omega) | (simp; done) | (simp [size_ext_eq]; omega)) _)))) g2 0 _ _ (nb) rfl rfl ?c2 ?c3 ?c4 ?c5 ?_))
  case c2 =>
    obtain ⟨hs, _, _, _, _, ha⟩ := O2.out.at
    exact ha.kp hs (by repeat (first | (with_reducible exact Kp.refl _) | (with_reducible assumption) | (with_reducible apply Kp.ext) | (with_reducible apply Kp.alloc) | (with_reducible apply Kp.drew) | (with_reducible apply Kp.drewN) | (with_reducible refine Kp.setCell ?_ (by first | (dsimp only; omega) | (simp; omega) | (simp; done) | (simp [size_ext_eq]; omega)) _)))
  case c3 => have := L1.out; have := L4.out; omega
  case c4 => have := L1.out; have := L4.out; omega
  case c5 => simp [size_ext_eq]; first | done | omega
  intro v' w' ho hbw _
  have hkW : Kp W w' := Below.trans (show Kp W _ from (by repeat (first | (with_reducible exact Kp.refl _) | (with_reducible assumption) | (with_reducible apply Kp.ext) | (with_reducible apply Kp.alloc) | (with_reducible apply Kp.drew) | (with_reducible apply Kp.drewN) | (with_reducible refine Kp.setCell ?_ (by first | (dsimp only; omega) | (simp; omega) | (simp; done) | (simp [size_ext_eq]; omega)) _)))) hbw
  have hk : Kp w w' := hk0.trans hkW
  have hB' := hB.kp hkW
  obtain ⟨i1, d0, d1, d2⟩ := id hB'
  have hc2 := Kp.cell hkW hc' hL'
  have hL2 := Nat.lt_of_lt_of_le hL' hkW.size
  have hsW := hkW.size
  have Ho := Lib.hid ho
  clear ho hbw O1 O2 b0 b1 b2 i0 hB hB' hc' hL'
  go_wp2_with (first | (go_at_call 22; (with_reducible refine (HP.out _ (by repeat (first | (with_reducible exact Kp.refl _) | (with_reducible assumption) | (with_reducible apply Kp.ext) | (with_reducible apply Kp.alloc) | (with_reducible apply Kp.drew) | (with_reducible apply Kp.drewN) | (with_reducible refine Kp.setCell ?_ (by first | (dsimp only; omega) | (simp; omega) | (simp; done) | (simp [size_ext_eq]; omega)) _)))).mono ?_); rintro e w1 ⟨v1, u1, rfl, rfl, ho1⟩; obtain ⟨g3, cap3, rfl, _⟩ := ho1.form; have O3 := Lib.hid ho1; clear ho1) | (at_builtin; refine wpList_append_bytes rfl (.tmp 51) (.tmp 57) rfl W.heap.size _ (hd ++ nb) rfl (OwnB.kp Ho.out (by repeat (first | (with_reducible exact Kp.refl _) | (with_reducible assumption) | (with_reducible apply Kp.ext) | (with_reducible apply Kp.alloc) | (with_reducible apply Kp.drew) | (with_reducible apply Kp.drewN) | (with_reducible refine Kp.setCell ?_ (by first | (dsimp only; omega) | (simp; omega) | (simp; done) | (simp [size_ext_eq]; omega)) _)))) g3 0 _ _ (pf) rfl rfl ?d2 ?d3 ?d4 ?d5 ?_))
  case d2 =>
    obtain ⟨hs, _, _, _, _, ha⟩ := O3.out.at
    exact ha.kp hs (by repeat (first | (with_reducible exact Kp.refl _) | (with_reducible assumption) | (with_reducible apply Kp.ext) | (with_reducible apply Kp.alloc) | (with_reducible apply Kp.drew) | (with_reducible apply Kp.drewN) | (with_reducible refine Kp.setCell ?_ (by first | (dsimp only; omega) | (simp; omega) | (simp; done) | (simp [size_ext_eq]; omega)) _)))
  case d3 => (have := L1.out; have := L2.out; have := L4.out; first | omega | (simp only [List.length_append]; omega))
  case d4 => (have := L1.out; have := L2.out; have := L4.out; first | omega | (simp only [List.length_append]; omega))
  case d5 => simp [size_ext_eq]; first | done | omega
  intro v2 w2 ho2 hbw2 _
  have hk2 : Kp w w2 := hk0.trans (Below.trans (show Kp W _ from (by repeat (first | (with_reducible exact Kp.refl _) | (with_reducible assumption) | (with_reducible apply Kp.ext) | (with_reducible apply Kp.alloc) | (with_reducible apply Kp.drew) | (with_reducible apply Kp.drewN) | (with_reducible refine Kp.setCell ?_ (by first | (dsimp only; omega) | (simp; omega) | (simp; done) | (simp [size_ext_eq]; omega)) _)))) hbw2)
  have Ho2 := Lib.hid (OwnB.base ho2 hk0.size)
  clear ho2
  go_wp2_with fail
  go_ret
  exact ⟨_, _, rfl, ext_of hk2, by have h := Ho2.out; simpa [List.append_assoc] using h⟩

end Go.Proofs.YtobdohhabgnjiaaGreatDoor

set_option linter.all false
namespace Go.Proofs.YtobdohhabgnjiaaGreatDoor
open PubFl Go.RowKit

attribute [local go_sem] cell_ext frozen_ext ext_setCell cell_store size_ext_eq lt_p0 lt_p1 lt_p2 lt_p3 lt_p4 lt_p5 lt_p6 lt_p7 lt_p8 lt_p9 lt_p10 lt_p11 lt_p12 lt_p13 lt_p14 lt_p15 lt_p16 lt_p17 lt_p18 lt_p19 lt_p20 lt_p21 lt_p22 lt_p23 lt_p24 lt_p25 lt_p26 lt_p27 lt_p28 lt_p29 lt_p30 lt_p31 lt_p32 lt_q1 lt_q2 lt_q3 lt_q4 lt_q5 lt_q6 lt_q7 lt_q8 lt_q9 lt_q10 lt_q11 lt_q12 lt_q13 lt_q14 lt_q15 lt_q16 lt_q17 lt_q18 lt_q19 lt_q20 lt_q21 lt_q22 lt_q23 lt_q24 lt_q25 lt_q26 lt_q27 lt_q28 lt_q29 lt_q30 lt_q31 lt_q32 run_fop run_store_float
attribute [local go_sem high] cmp_eql cmp_neq cmp_lss cmp_leq cmp_gtr cmp_geq

/-- so many lists of bytes behind some bytes -/
def accB (acc : List Nat) (f : Nat → List Nat) : Nat → List Nat
  | 0 => acc
  | k + 1 => accB acc f k ++ f k
theorem accB_len {acc : List Nat} {f : Nat → List Nat} {B : Nat} : ∀ {k : Nat}, (∀ i, i < k → (f i).length ≤ B) → (accB acc f k).length ≤ acc.length + k * B
  | 0, _ => by simp [accB]
  | k + 1, h => by
    have h1 := accB_len (acc := acc) (k := k) fun i hi => h i (by omega)
    have h2 := h k (by omega)
    unfold accB
    rw [List.length_append, Nat.succ_mul]
    omega
theorem accB_mono (acc : List Nat) (f : Nat → List Nat) {k : Nat} : ∀ {n : Nat}, k ≤ n → (accB acc f k).length ≤ (accB acc f n).length
  | 0, h => by
    obtain rfl : k = 0 := by omega
    exact Nat.le_refl _
  | n + 1, h => by
    by_cases c : k = n + 1
    · subst c; exact Nat.le_refl _
    · have := accB_mono acc f (k := k) (n := n) (by omega)
      show _ ≤ (accB acc f n ++ f n).length
      rw [List.length_append]
      omega
theorem ptAt_one {w : World} {g x y : Nat} (h0 : w.cell? ⟨g, 0, none⟩ = some (.float .f64 x)) (h1 : w.cell? ⟨g, 1, none⟩ = some (.float .f64 y)) : PtsAt w g 0 [(x, y)] := by
  intro i hi
  obtain rfl : i = 0 := by simpa using hi
  exact ⟨h0, h1⟩
theorem bits_one {x y : Nat} (h0 : x < 2 ^ 64) (h1 : y < 2 ^ 64) : Bits [(x, y)] := by
  intro i hi
  obtain rfl : i = 0 := by simpa using hi
  exact ⟨h0, h1⟩


set_option maxRecDepth 20000 in
set_option maxHeartbeats 2000000 in
theorem form4_c (s : Nat) (hs : s ≤ 999999) (big turns : Bool) (ps : List (Nat × Nat)) (h300 : ps.length ≤ 300) (L off cap : Nat) (a2 : Option Addr) (n2 c2 : Nat) (a' : Option Addr) (cap' : Nat) (w : World) (hL : L < w.heap.size)
    (hc : w.cell? ⟨L, off, none⟩ = some (.slice a' ps.length cap')) (hin : PtsIn w a' ps) (hb : Bits ps) :
    Calls Tryz.prog 7 #[.agg #[.int .i64 4, .slice (some ⟨L, off, none⟩) 1 cap, .slice a2 n2 c2], .int .i64 (s : Int), .bool big, .bool turns] w (RetY w (accB (headB 4 s big ++ num32 ps.length big) (fun i => headB 1 0 (!(big == turns)) ++ ptsForm [ps.getD i (0, 0)] (!(big == turns))) ps.length)) := by
  have HH : Hid (∀ w', Calls Tryz.prog 21 #[.int .i64 4, .int .i64 (s : Int), .bool big] w' (RetY w' (headB 4 s big))) := Lib.hid (fun w' => head_c 4 (by decide) (by decide) s hs big w')
  have HN := Lib.hid (fun w' => number32_c ps.length (by omega) big w')
  have l3 := num32_length ps.length big
  have l1 := headB_length 4 s big
  obtain ⟨f, hf⟩ : ∃ f : Nat → List Nat, (fun i => headB 1 0 (!(big == turns)) ++ ptsForm [ps.getD i (0, 0)] (!(big == turns))) = f := ⟨_, rfl⟩
  rw [hf]
  have Hf := Lib.hid hf
  clear hf
  have Hin := Lib.hid hin
  have Hb := Lib.hid hb
  clear hin hb
  obtain ⟨n, hn⟩ : ∃ n, ps.length = n := ⟨_, rfl⟩
  rw [hn] at HN l3 ⊢
  rw [hn] at hc h300
  have Hn := Lib.hid hn
  clear hn
  generalize headB 4 s big = hd at *
  have l1' : hd.length ≤ 9 := by rw [l1]; split <;> omega
  generalize num32 n big = nb at *
  have L4 := Lib.hid l3
  have L1 := Lib.hid l1'
  clear l1 l1' l3
  go_enter Tryz.func7, Tryz.ntmps7
  go_wp2_with fail
  have hB := Box3.new w (.int .i64 4) (.slice (some ⟨L, off, none⟩) 1 cap) (.slice a2 n2 c2) 30
  have hk0 := (Kp.refl w).alloc (.cells #[.int .i64 4, .slice (some ⟨L, off, none⟩) 1 cap, .slice a2 n2 c2] 30)
  generalize w.alloc (.cells #[.int .i64 4, .slice (some ⟨L, off, none⟩) 1 cap, .slice a2 n2 c2] 30) = W at *
  obtain ⟨i0, b0, b1, b2⟩ := id hB
  have hc' := Kp.cell hk0 hc hL
  have hL' := Nat.lt_of_lt_of_le hL hk0.size
  clear hc hL
  go_wp2_with (first | (go_at_call 21; (with_reducible refine (HH.out _).mono ?_); rintro e w1 ⟨v1, u1, rfl, rfl, ho1⟩; obtain ⟨g1, cap1, rfl, _⟩ := ho1.form; have O1 := Lib.hid ho1; clear ho1) | (go_at_call 23; (with_reducible refine (HN.out _).mono ?_); rintro e w1 ⟨v1, u1, rfl, rfl, ho1⟩; obtain ⟨g2, cap2, rfl, _⟩ := ho1.form; have O2 := Lib.hid ho1; clear ho1) | (at_builtin; refine wpList_append_bytes rfl (.tmp 92) (.tmp 100) rfl W.heap.size _ (hd) rfl (OwnB.kp O1.out (by repeat (first | (with_reducible exact Kp.refl _) | (with_reducible assumption) | (with_reducible apply Kp.ext) | (with_reducible apply Kp.alloc) | (with_reducible apply Kp.drew) | (with_reducible apply Kp.drewN) | (with_reducible refine Kp.setCell ?_ (by first | (dsimp only; omega) | (simp; omega) | (simp; done) | (simp [size_ext_eq]; omega)) _)))) g2 0 _ _ (nb) rfl rfl ?c2 ?c3 ?c4 ?c5 ?_))
  case c2 =>
    obtain ⟨hs, _, _, _, _, ha⟩ := O2.out.at
    exact ha.kp hs (by repeat (first | (with_reducible exact Kp.refl _) | (with_reducible assumption) | (with_reducible apply Kp.ext) | (with_reducible apply Kp.alloc) | (with_reducible apply Kp.drew) | (with_reducible apply Kp.drewN) | (with_reducible refine Kp.setCell ?_ (by first | (dsimp only; omega) | (simp; omega) | (simp; done) | (simp [size_ext_eq]; omega)) _)))
  case c3 => have := L1.out; have := L4.out; omega
  case c4 => have := L1.out; have := L4.out; omega
  case c5 => simp [size_ext_eq]; first | done | omega
  intro v' w' ho hbw _
  have hkW : Kp W w' := Below.trans (show Kp W _ from (by repeat (first | (with_reducible exact Kp.refl _) | (with_reducible assumption) | (with_reducible apply Kp.ext) | (with_reducible apply Kp.alloc) | (with_reducible apply Kp.drew) | (with_reducible apply Kp.drewN) | (with_reducible refine Kp.setCell ?_ (by first | (dsimp only; omega) | (simp; omega) | (simp; done) | (simp [size_ext_eq]; omega)) _)))) hbw
  have hB' := hB.kp hkW
  obtain ⟨i1, d0, d1, d2⟩ := id hB'
  have hc2 := Kp.cell hkW hc' hL'
  have hL2 := Nat.lt_of_lt_of_le hL' hkW.size
  have hsW := hkW.size
  have hal : (hd ++ nb).length ≤ 13 := by rw [List.length_append]; have := L1.out; have := L4.out; omega
  generalize hd ++ nb = acc at *
  have Hal := Lib.hid hal
  have Ho := Lib.hid ho
  have HB := Lib.hid hB'
  clear ho hbw O1 O2 b0 b1 b2 i0 hB hB' hal hc' hL'
  go_wp2_with fail
  go_loopw [9, 107] (fun s9 sI wr => ∃ k : Nat, k ≤ n ∧ sI = .int .i64 k ∧ Kp W wr ∧ OwnB W.heap.size wr s9 (accB acc f k)) (fun _ sI _ => n - (intOf sI).toNat)
  case atStart => exact ⟨0, Nat.zero_le _, rfl, hkW, Ho.out⟩
  case round =>
    obtain ⟨k, hkn, rfl, hkr, hown⟩ := hrel
    by_cases hlt : k < n
    · have hkp := hlt
      rw [← Hn.out] at hkp
      obtain ⟨b, off', rfl, hbl, hpt⟩ := Hin.out.cells (by omega)
      obtain ⟨e0, e1⟩ := hpt.kp hbl (hk0.trans hkr) k hkp
      obtain ⟨b0, b1⟩ := Hb.out k hkp
      have hbr := Nat.lt_of_lt_of_le hbl (hk0.trans hkr).size
      have hgd := getD_in ps k hkp
      obtain ⟨⟨px, py⟩, hq⟩ : ∃ q, ps[k]'hkp = q := ⟨_, rfl⟩
      rw [hq] at e0 e1 b0 b1 hgd
      dsimp only at b0 b1
      have hfk : f k = headB 1 0 (!(big == turns)) ++ ptsForm [(px, py)] (!(big == turns)) := by rw [← Hf.out]; dsimp only; rw [hgd]
      have hlen : (accB acc f k).length ≤ 13 + k * 21 := by
        have h1 := Hal.out
        have := accB_len (acc := acc) (f := f) (B := 21) (k := k) fun i hi => by rw [← Hf.out]; dsimp only; rw [List.length_append, headB_length, ptsForm_length]; simp
        omega
      have hstep : accB acc f (k + 1) = accB acc f k ++ f k := rfl
      have Hst := Lib.hid hstep
      generalize accB acc f k = ak at *
      have hk1 : (k : Int) < (n : Int) := by omega
      have hsr := hkr.size
      have hkw := hk0.trans hkr
      have Hown := Lib.hid hown
      clear hown hstep
      have HF : Hid (∀ (L G : Nat) (w' : World), L < w'.heap.size → w'.cell? ⟨L, 0, none⟩ = some (.slice (some ⟨G, 0, none⟩) 1 1) → G < w'.heap.size → w'.cell? ⟨G, 0, none⟩ = some (.float .f64 px) → w'.cell? ⟨G, 1, none⟩ = some (.float .f64 py) →
          Calls Tryz.prog 7 #[.agg #[.int .i64 1, .slice (some ⟨L, 0, none⟩) 1 1, .slice none 0 0], .int .i64 0, .bool (!(big == turns)), .bool turns] w' (RetY w' (headB 1 0 (!(big == turns)) ++ ptsForm [(px, py)] (!(big == turns))))) := Lib.hid (fun L G w' h1 h2 h3 h4 h5 =>
        form1_c 0 (by decide) (!(big == turns)) turns [(px, py)] (by simp) L 0 1 none 0 0 (some ⟨G, 0, none⟩) 1 w' h1 h2 (.inr ⟨G, 0, rfl, h3, ptAt_one h4 h5⟩) (bits_one b0 b1))
      have hpl : (headB 1 0 (!(big == turns)) ++ ptsForm [(px, py)] (!(big == turns))).length = 21 := by rw [List.length_append, headB_length, ptsForm_length]; simp
      generalize headB 1 0 (!(big == turns)) ++ ptsForm [(px, py)] (!(big == turns)) = pf at *
      have Hfk := Lib.hid hfk
      have Hpl := Lib.hid hpl
      clear hfk hpl hq hgd hpt b0 b1 hkp
      go_wp2_with (first | (go_at_call 7; (with_reducible refine (HF.out _ (wr.heap.size + 1) _ (by simp) (by simp [go_sem]) (by simp) (by simp [go_sem]) (by simp [go_sem])).mono ?_); rintro e w1 ⟨v1, u1, rfl, rfl, ho1⟩; obtain ⟨g3, cap3, rfl, _⟩ := ho1.form; have O3 := Lib.hid ho1; clear ho1) | (at_builtin; refine wpList_append_bytes rfl (.tmp 111) (.tmp 118) rfl W.heap.size _ (ak) rfl (OwnB.kp Hown.out (by repeat (first | (with_reducible exact Kp.refl _) | (with_reducible assumption) | (with_reducible apply Kp.ext) | (with_reducible apply Kp.alloc) | (with_reducible apply Kp.drew) | (with_reducible apply Kp.drewN) | (with_reducible refine Kp.setCell ?_ (by first | (dsimp only; omega) | (simp; omega) | (simp; done) | (simp [size_ext_eq]; omega)) _)))) g3 0 _ _ (pf) rfl rfl ?d2 ?d3 ?d4 ?d5 ?_))
      case d2 =>
        obtain ⟨hs, _, _, _, _, ha⟩ := O3.out.at
        exact ha.kp hs (by repeat (first | (with_reducible exact Kp.refl _) | (with_reducible assumption) | (with_reducible apply Kp.ext) | (with_reducible apply Kp.alloc) | (with_reducible apply Kp.drew) | (with_reducible apply Kp.drewN) | (with_reducible refine Kp.setCell ?_ (by first | (dsimp only; omega) | (simp; omega) | (simp; done) | (simp [size_ext_eq]; omega)) _)))
      case d3 => have := Hpl.out; omega
      case d4 => have := Hpl.out; omega
      case d5 => simp [size_ext_eq]; first | done | omega
      intro v2 w2 ho2 hbw2 _
      have hk2 : Kp W w2 := Below.trans (show Kp W _ from (by repeat (first | (with_reducible exact Kp.refl _) | (with_reducible assumption) | (with_reducible apply Kp.ext) | (with_reducible apply Kp.alloc) | (with_reducible apply Kp.drew) | (with_reducible apply Kp.drewN) | (with_reducible refine Kp.setCell ?_ (by first | (dsimp only; omega) | (simp; omega) | (simp; done) | (simp [size_ext_eq]; omega)) _)))) hbw2
      have e2 : ak ++ pf = accB acc f (k + 1) := by rw [Hst.out, Hfk.out]
      rw [e2] at ho2
      have Ho2 := Lib.hid ho2
      clear ho2 hbw2
      go_wp2_with fail
      go_roundw
      case rel => exact ⟨k + 1, by omega, by go_num, hk2, Ho2.out⟩
      case measure => simp [intOf]; omega
    · obtain rfl : k = n := by omega
      have Hown := Lib.hid (OwnB.base hown hk0.size)
      clear hown
      go_wp2_with fail
      go_ret
      exact ⟨_, _, rfl, ext_of (hk0.trans hkr), Hown.out⟩

end Go.Proofs.YtobdohhabgnjiaaGreatDoor

set_option linter.all false
namespace Go.Proofs.YtobdohhabgnjiaaGreatDoor
open PubFl Go.RowKit

attribute [local go_sem] cell_ext frozen_ext ext_setCell cell_store size_ext_eq lt_p0 lt_p1 lt_p2 lt_p3 lt_p4 lt_p5 lt_p6 lt_p7 lt_p8 lt_p9 lt_p10 lt_p11 lt_p12 lt_p13 lt_p14 lt_p15 lt_p16 lt_p17 lt_p18 lt_p19 lt_p20 lt_p21 lt_p22 lt_p23 lt_p24 lt_p25 lt_p26 lt_p27 lt_p28 lt_p29 lt_p30 lt_p31 lt_p32 lt_q1 lt_q2 lt_q3 lt_q4 lt_q5 lt_q6 lt_q7 lt_q8 lt_q9 lt_q10 lt_q11 lt_q12 lt_q13 lt_q14 lt_q15 lt_q16 lt_q17 lt_q18 lt_q19 lt_q20 lt_q21 lt_q22 lt_q23 lt_q24 lt_q25 lt_q26 lt_q27 lt_q28 lt_q29 lt_q30 lt_q31 lt_q32 run_fop run_store_float
attribute [local go_sem high] cmp_eql cmp_neq cmp_lss cmp_leq cmp_gtr cmp_geq


set_option maxRecDepth 20000 in
set_option maxHeartbeats 2000000 in
theorem form3_c (s : Nat) (hs : s ≤ 999999) (big turns : Bool) (ls : List (List (Nat × Nat))) (h40 : ls.length ≤ 40) (hns : ∀ l ∈ ls, l.length ≤ 300) (a : Option Addr) (cap : Nat) (a2 : Option Addr) (n2 c2 : Nat) (w : World) (hs0 : LissIn w (.slice a ls.length cap) ls) :
    Calls Tryz.prog 7 #[.agg #[.int .i64 3, .slice a ls.length cap, .slice a2 n2 c2], .int .i64 (s : Int), .bool big, .bool turns] w (RetY w (accB (headB 3 s big ++ num32 ls.length big) (fun i => num32 (ls.getD i []).length big ++ ptsForm (ls.getD i []) big) ls.length)) := by
  have HH : Hid (∀ w', Calls Tryz.prog 21 #[.int .i64 3, .int .i64 (s : Int), .bool big] w' (RetY w' (headB 3 s big))) := Lib.hid (fun w' => head_c 3 (by decide) (by decide) s hs big w')
  have HN := Lib.hid (fun w' => number32_c ls.length (by omega) big w')
  have l3 := num32_length ls.length big
  have l1 := headB_length 3 s big
  obtain ⟨f, hf⟩ : ∃ f : Nat → List Nat, (fun i => num32 (ls.getD i []).length big ++ ptsForm (ls.getD i []) big) = f := ⟨_, rfl⟩
  rw [hf]
  have Hf := Lib.hid hf
  clear hf
  obtain ⟨a0, c0, hv0, _, hget⟩ := hs0.get
  obtain ⟨rfl, rfl⟩ : _ ∧ _ := by simpa using hv0
  have Hget := Lib.hid hget
  have Hns := Lib.hid hns
  clear hs0 hget hns hv0
  obtain ⟨n, hn⟩ : ∃ n, ls.length = n := ⟨_, rfl⟩
  rw [hn] at HN l3 ⊢
  rw [hn] at h40
  have Hn := Lib.hid hn
  clear hn
  generalize headB 3 s big = hd at *
  have l1' : hd.length ≤ 9 := by rw [l1]; split <;> omega
  generalize num32 n big = nb at *
  have L4 := Lib.hid l3
  have L1 := Lib.hid l1'
  clear l1 l1' l3
  go_enter Tryz.func7, Tryz.ntmps7
  go_wp2_with fail
  have hB := Box3.new w (.int .i64 3) (.slice a n cap) (.slice a2 n2 c2) 30
  have hk0 := (Kp.refl w).alloc (.cells #[.int .i64 3, .slice a n cap, .slice a2 n2 c2] 30)
  generalize w.alloc (.cells #[.int .i64 3, .slice a n cap, .slice a2 n2 c2] 30) = W at *
  obtain ⟨i0, b0, b1, b2⟩ := id hB
  go_wp2_with (first | (go_at_call 21; (with_reducible refine (HH.out _).mono ?_); rintro e w1 ⟨v1, u1, rfl, rfl, ho1⟩; obtain ⟨g1, cap1, rfl, _⟩ := ho1.form; have O1 := Lib.hid ho1; clear ho1) | (go_at_call 23; (with_reducible refine (HN.out _).mono ?_); rintro e w1 ⟨v1, u1, rfl, rfl, ho1⟩; obtain ⟨g2, cap2, rfl, _⟩ := ho1.form; have O2 := Lib.hid ho1; clear ho1) | (at_builtin; refine wpList_append_bytes rfl (.tmp 61) (.tmp 67) rfl W.heap.size _ (hd) rfl (OwnB.kp O1.out (by repeat (first | (with_reducible exact Kp.refl _) | (with_reducible assumption) | (with_reducible apply Kp.ext) | (with_reducible apply Kp.alloc) | (with_reducible apply Kp.drew) | (with_reducible apply Kp.drewN) | (with_reducible refine Kp.setCell ?_ (by first | (dsimp only; omega) | (simp; omega) | (simp; done) | (simp [size_ext_eq]; omega)) _)))) g2 0 _ _ (nb) rfl rfl ?c2 ?c3 ?c4 ?c5 ?_))
  case c2 =>
    obtain ⟨hs, _, _, _, _, ha⟩ := O2.out.at
    exact ha.kp hs (by repeat (first | (with_reducible exact Kp.refl _) | (with_reducible assumption) | (with_reducible apply Kp.ext) | (with_reducible apply Kp.alloc) | (with_reducible apply Kp.drew) | (with_reducible apply Kp.drewN) | (with_reducible refine Kp.setCell ?_ (by first | (dsimp only; omega) | (simp; omega) | (simp; done) | (simp [size_ext_eq]; omega)) _)))
  case c3 => have := L1.out; have := L4.out; omega
  case c4 => have := L1.out; have := L4.out; omega
  case c5 => simp [size_ext_eq]; first | done | omega
  intro v' w' ho hbw _
  have hkW : Kp W w' := Below.trans (show Kp W _ from (by repeat (first | (with_reducible exact Kp.refl _) | (with_reducible assumption) | (with_reducible apply Kp.ext) | (with_reducible apply Kp.alloc) | (with_reducible apply Kp.drew) | (with_reducible apply Kp.drewN) | (with_reducible refine Kp.setCell ?_ (by first | (dsimp only; omega) | (simp; omega) | (simp; done) | (simp [size_ext_eq]; omega)) _)))) hbw
  have hB' := hB.kp hkW
  obtain ⟨i1, d0, d1, d2⟩ := id hB'
  have hsW := hkW.size
  have hal : (hd ++ nb).length ≤ 13 := by rw [List.length_append]; have := L1.out; have := L4.out; omega
  generalize hd ++ nb = acc at *
  have Hal := Lib.hid hal
  have Ho := Lib.hid ho
  have HB := Lib.hid hB'
  clear ho hbw O1 O2 b0 b1 b2 i0 hB hB' hal
  go_wp2_with fail
  go_loopw [9, 72] (fun s9 sI wr => ∃ k : Nat, k ≤ n ∧ sI = .int .i64 k ∧ Kp W wr ∧ OwnB W.heap.size wr s9 (accB acc f k)) (fun _ sI _ => n - (intOf sI).toNat)
  case atStart => exact ⟨0, Nat.zero_le _, rfl, hkW, Ho.out⟩
  case round =>
    obtain ⟨k, hkn, rfl, hkr, hown⟩ := hrel
    by_cases hlt : k < n
    · have hkp := hlt
      rw [← Hn.out] at hkp
      obtain ⟨L, off, a', cap', rfl, hL, hc0, hbg, hin, hbits⟩ := Hget.out k hkp
      have hc := Kp.cell (hk0.trans hkr) hc0 hL
      clear hc0 hbg
      have hLr := Nat.lt_of_lt_of_le hL (hk0.trans hkr).size
      have h300 := Hns.out _ (List.getElem_mem hkp)
      have hgd := getD_ls ls k hkp
      obtain ⟨ps, hps⟩ : ∃ ps, ls[k]'hkp = ps := ⟨_, rfl⟩
      rw [hps] at hc hin hbits h300 hgd
      have hfk : f k = num32 ps.length big ++ ptsForm ps big := by rw [← Hf.out]; dsimp only; rw [hgd]
      have hlen : (accB acc f k).length ≤ 13 + k * 4804 := by
        have h1 := Hal.out
        have := accB_len (acc := acc) (f := f) (B := 4804) (k := k) fun i hi => by rw [← Hf.out]; dsimp only; rw [List.length_append, num32_length, ptsForm_length]; have := Hns.out _ (mem_getD' (z := []) (show i < ls.length by have := Hn.out; omega)); omega
        omega
      have hstep : accB acc f (k + 1) = accB acc f k ++ f k := rfl
      have Hst := Lib.hid hstep
      generalize accB acc f k = ak at *
      have hk1 : (k : Int) < (n : Int) := by omega
      have hsr := hkr.size
      have hkw := hk0.trans hkr
      have Hown := Lib.hid hown
      clear hown hstep
      have HC := Lib.hid (fun w' => number32_c ps.length (by omega) big w')
      have HP := Lib.hid (fun w' (hk : Kp w w') => pointsForm_c a' cap' ps (by omega) w' (hin.kp hk) hbits big)
      have l5 := num32_length ps.length big
      have l6 := ptsForm_length ps big
      obtain ⟨m, hm⟩ : ∃ m, ps.length = m := ⟨_, rfl⟩
      rw [hm] at hc HC HP l5 l6 h300 hfk
      generalize num32 m big = nk at *
      generalize ptsForm ps big = pk at *
      have Hfk := Lib.hid hfk
      have L5 := Lib.hid l5
      have L6 := Lib.hid l6
      clear hfk l5 l6 hgd hps hin hbits hkp hm
      go_wp2_with (first | (go_at_call 23; (with_reducible refine (HC.out _).mono ?_); rintro e w1 ⟨v1, u1, rfl, rfl, ho1⟩; obtain ⟨g3, cap3, rfl, _⟩ := ho1.form; have O3 := Lib.hid ho1; clear ho1) | (at_builtin; refine wpList_append_bytes rfl (.tmp 76) (.tmp 81) rfl W.heap.size _ (ak) rfl (OwnB.kp Hown.out (by repeat (first | (with_reducible exact Kp.refl _) | (with_reducible assumption) | (with_reducible apply Kp.ext) | (with_reducible apply Kp.alloc) | (with_reducible apply Kp.drew) | (with_reducible apply Kp.drewN) | (with_reducible refine Kp.setCell ?_ (by first | (dsimp only; omega) | (simp; omega) | (simp; done) | (simp [size_ext_eq]; omega)) _)))) g3 0 _ _ (nk) rfl rfl ?d2 ?d3 ?d4 ?d5 ?_))
      case d2 =>
        obtain ⟨hs, _, _, _, _, ha⟩ := O3.out.at
        exact ha.kp hs (by repeat (first | (with_reducible exact Kp.refl _) | (with_reducible assumption) | (with_reducible apply Kp.ext) | (with_reducible apply Kp.alloc) | (with_reducible apply Kp.drew) | (with_reducible apply Kp.drewN) | (with_reducible refine Kp.setCell ?_ (by first | (dsimp only; omega) | (simp; omega) | (simp; done) | (simp [size_ext_eq]; omega)) _)))
      case d3 => have := L5.out; omega
      case d4 => have := L5.out; omega
      case d5 => simp [size_ext_eq]; first | done | omega
      intro v2 w2 ho2 hbw2 hgr2
      have hk2 : Kp W w2 := Below.trans (show Kp W _ from (by repeat (first | (with_reducible exact Kp.refl _) | (with_reducible assumption) | (with_reducible apply Kp.ext) | (with_reducible apply Kp.alloc) | (with_reducible apply Kp.drew) | (with_reducible apply Kp.drewN) | (with_reducible refine Kp.setCell ?_ (by first | (dsimp only; omega) | (simp; omega) | (simp; done) | (simp [size_ext_eq]; omega)) _)))) hbw2
      have hkw2 := hk0.trans hk2
      have hs2 := hk2.size
      have Ho2 := Lib.hid ho2
      have hl2 : (ak ++ nk).length ≤ 17 + k * 4804 := by rw [List.length_append]; have := L5.out; omega
      generalize hg2 : ak ++ nk = an at *
      have Hg2 := Lib.hid hg2
      clear ho2 hbw2 hgr2 O3 hg2
      go_wp2_with (first | (go_at_call 22; (with_reducible refine (HP.out _ (by repeat (first | (with_reducible exact Kp.refl _) | (with_reducible assumption) | (with_reducible apply Kp.ext) | (with_reducible apply Kp.alloc) | (with_reducible apply Kp.drew) | (with_reducible apply Kp.drewN) | (with_reducible refine Kp.setCell ?_ (by first | (dsimp only; omega) | (simp; omega) | (simp; done) | (simp [size_ext_eq]; omega)) _)))).mono ?_); rintro e w1 ⟨v1, u1, rfl, rfl, ho1⟩; obtain ⟨g4, cap4, rfl, _⟩ := ho1.form; have O4 := Lib.hid ho1; clear ho1) | (at_builtin; refine wpList_append_bytes rfl (.tmp 83) (.tmp 86) rfl W.heap.size _ (an) rfl (OwnB.kp Ho2.out (by repeat (first | (with_reducible exact Kp.refl _) | (with_reducible assumption) | (with_reducible apply Kp.ext) | (with_reducible apply Kp.alloc) | (with_reducible apply Kp.drew) | (with_reducible apply Kp.drewN) | (with_reducible refine Kp.setCell ?_ (by first | (dsimp only; omega) | (simp; omega) | (simp; done) | (simp [size_ext_eq]; omega)) _)))) g4 0 _ _ (pk) rfl rfl ?e2 ?e3 ?e4 ?e5 ?_))
      case e2 =>
        obtain ⟨hs, _, _, _, _, ha⟩ := O4.out.at
        exact ha.kp hs (by repeat (first | (with_reducible exact Kp.refl _) | (with_reducible assumption) | (with_reducible apply Kp.ext) | (with_reducible apply Kp.alloc) | (with_reducible apply Kp.drew) | (with_reducible apply Kp.drewN) | (with_reducible refine Kp.setCell ?_ (by first | (dsimp only; omega) | (simp; omega) | (simp; done) | (simp [size_ext_eq]; omega)) _)))
      case e3 => have := L6.out; omega
      case e4 => have := L6.out; omega
      case e5 => simp [size_ext_eq]; first | done | omega
      intro v3 w3 ho3 hbw3 _
      have hk3 : Kp W w3 := Below.trans (show Kp W _ from (by repeat (first | (with_reducible exact Kp.refl _) | (with_reducible assumption) | (with_reducible apply Kp.ext) | (with_reducible apply Kp.alloc) | (with_reducible apply Kp.drew) | (with_reducible apply Kp.drewN) | (with_reducible refine Kp.setCell ?_ (by first | (dsimp only; omega) | (simp; omega) | (simp; done) | (simp [size_ext_eq]; omega)) _)))) hbw3
      have e3 : an ++ pk = accB acc f (k + 1) := by rw [Hst.out, Hfk.out, ← Hg2.out, List.append_assoc]
      rw [e3] at ho3
      have Ho3 := Lib.hid ho3
      clear ho3 hbw3
      go_wp2_with fail
      go_roundw
      case rel => exact ⟨k + 1, by omega, by go_num, hk3, Ho3.out⟩
      case measure => simp [intOf]; omega
    · obtain rfl : k = n := by omega
      have Hown := Lib.hid (OwnB.base hown hk0.size)
      clear hown
      go_wp2_with fail
      go_ret
      exact ⟨_, _, rfl, ext_of (hk0.trans hkr), Hown.out⟩


set_option maxRecDepth 20000 in
set_option maxHeartbeats 2000000 in
theorem form5_c (s : Nat) (hs : s ≤ 999999) (big turns : Bool) (ls : List (List (Nat × Nat))) (h40 : ls.length ≤ 40) (hns : ∀ l ∈ ls, l.length ≤ 300) (a : Option Addr) (cap : Nat) (a2 : Option Addr) (n2 c2 : Nat) (w : World) (hs0 : LissIn w (.slice a ls.length cap) ls) :
    Calls Tryz.prog 7 #[.agg #[.int .i64 5, .slice a ls.length cap, .slice a2 n2 c2], .int .i64 (s : Int), .bool big, .bool turns] w (RetY w (accB (headB 5 s big ++ num32 ls.length big) (fun i => headB 2 0 (!(big == turns)) ++ num32 (ls.getD i []).length (!(big == turns)) ++ ptsForm (ls.getD i []) (!(big == turns))) ls.length)) := by
  have HH : Hid (∀ w', Calls Tryz.prog 21 #[.int .i64 5, .int .i64 (s : Int), .bool big] w' (RetY w' (headB 5 s big))) := Lib.hid (fun w' => head_c 5 (by decide) (by decide) s hs big w')
  have HN := Lib.hid (fun w' => number32_c ls.length (by omega) big w')
  have l3 := num32_length ls.length big
  have l1 := headB_length 5 s big
  obtain ⟨f, hf⟩ : ∃ f : Nat → List Nat, (fun i => headB 2 0 (!(big == turns)) ++ num32 (ls.getD i []).length (!(big == turns)) ++ ptsForm (ls.getD i []) (!(big == turns))) = f := ⟨_, rfl⟩
  rw [hf]
  have Hf := Lib.hid hf
  clear hf
  obtain ⟨a0, c0, hv0, _, hget⟩ := hs0.get
  obtain ⟨rfl, rfl⟩ : _ ∧ _ := by simpa using hv0
  have Hget := Lib.hid hget
  have Hns := Lib.hid hns
  clear hs0 hget hns hv0
  obtain ⟨n, hn⟩ : ∃ n, ls.length = n := ⟨_, rfl⟩
  rw [hn] at HN l3 ⊢
  rw [hn] at h40
  have Hn := Lib.hid hn
  clear hn
  generalize headB 5 s big = hd at *
  have l1' : hd.length ≤ 9 := by rw [l1]; split <;> omega
  generalize num32 n big = nb at *
  have L4 := Lib.hid l3
  have L1 := Lib.hid l1'
  clear l1 l1' l3
  go_enter Tryz.func7, Tryz.ntmps7
  go_wp2_with fail
  have hB := Box3.new w (.int .i64 5) (.slice a n cap) (.slice a2 n2 c2) 30
  have hk0 := (Kp.refl w).alloc (.cells #[.int .i64 5, .slice a n cap, .slice a2 n2 c2] 30)
  generalize w.alloc (.cells #[.int .i64 5, .slice a n cap, .slice a2 n2 c2] 30) = W at *
  obtain ⟨i0, b0, b1, b2⟩ := id hB
  go_wp2_with (first | (go_at_call 21; (with_reducible refine (HH.out _).mono ?_); rintro e w1 ⟨v1, u1, rfl, rfl, ho1⟩; obtain ⟨g1, cap1, rfl, _⟩ := ho1.form; have O1 := Lib.hid ho1; clear ho1) | (go_at_call 23; (with_reducible refine (HN.out _).mono ?_); rintro e w1 ⟨v1, u1, rfl, rfl, ho1⟩; obtain ⟨g2, cap2, rfl, _⟩ := ho1.form; have O2 := Lib.hid ho1; clear ho1) | (at_builtin; refine wpList_append_bytes rfl (.tmp 124) (.tmp 130) rfl W.heap.size _ (hd) rfl (OwnB.kp O1.out (by repeat (first | (with_reducible exact Kp.refl _) | (with_reducible assumption) | (with_reducible apply Kp.ext) | (with_reducible apply Kp.alloc) | (with_reducible apply Kp.drew) | (with_reducible apply Kp.drewN) | (with_reducible refine Kp.setCell ?_ (by first | (dsimp only; omega) | (simp; omega) | (simp; done) | (simp [size_ext_eq]; omega)) _)))) g2 0 _ _ (nb) rfl rfl ?c2 ?c3 ?c4 ?c5 ?_))
  case c2 =>
    obtain ⟨hs, _, _, _, _, ha⟩ := O2.out.at
    exact ha.kp hs (by repeat (first | (with_reducible exact Kp.refl _) | (with_reducible assumption) | (with_reducible apply Kp.ext) | (with_reducible apply Kp.alloc) | (with_reducible apply Kp.drew) | (with_reducible apply Kp.drewN) | (with_reducible refine Kp.setCell ?_ (by first | (dsimp only; omega) | (simp; omega) | (simp; done) | (simp [size_ext_eq]; omega)) _)))
  case c3 => have := L1.out; have := L4.out; omega
  case c4 => have := L1.out; have := L4.out; omega
  case c5 => simp [size_ext_eq]; first | done | omega
  intro v' w' ho hbw _
  have hkW : Kp W w' := Below.trans (show Kp W _ from (by repeat (first | (with_reducible exact Kp.refl _) | (with_reducible assumption) | (with_reducible apply Kp.ext) | (with_reducible apply Kp.alloc) | (with_reducible apply Kp.drew) | (with_reducible apply Kp.drewN) | (with_reducible refine Kp.setCell ?_ (by first | (dsimp only; omega) | (simp; omega) | (simp; done) | (simp [size_ext_eq]; omega)) _)))) hbw
  have hB' := hB.kp hkW
  obtain ⟨i1, d0, d1, d2⟩ := id hB'
  have hsW := hkW.size
  have hal : (hd ++ nb).length ≤ 13 := by rw [List.length_append]; have := L1.out; have := L4.out; omega
  generalize hd ++ nb = acc at *
  have Hal := Lib.hid hal
  have Ho := Lib.hid ho
  have HB := Lib.hid hB'
  clear ho hbw O1 O2 b0 b1 b2 i0 hB hB' hal
  go_wp2_with fail
  go_loopw [9, 135] (fun s9 sI wr => ∃ k : Nat, k ≤ n ∧ sI = .int .i64 k ∧ Kp W wr ∧ OwnB W.heap.size wr s9 (accB acc f k)) (fun _ sI _ => n - (intOf sI).toNat)
  case atStart => exact ⟨0, Nat.zero_le _, rfl, hkW, Ho.out⟩
  case round =>
    obtain ⟨k, hkn, rfl, hkr, hown⟩ := hrel
    by_cases hlt : k < n
    · have hkp := hlt
      rw [← Hn.out] at hkp
      obtain ⟨L, off, a', cap', rfl, hL, hc0, hbg, hin, hbits⟩ := Hget.out k hkp
      have hc := Kp.cell (hk0.trans hkr) hc0 hL
      clear hc0 hbg
      have hLr := Nat.lt_of_lt_of_le hL (hk0.trans hkr).size
      have h300 := Hns.out _ (List.getElem_mem hkp)
      have hgd := getD_ls ls k hkp
      obtain ⟨ps, hps⟩ : ∃ ps, ls[k]'hkp = ps := ⟨_, rfl⟩
      rw [hps] at hc hin hbits h300 hgd
      have hfk : f k = headB 2 0 (!(big == turns)) ++ num32 ps.length (!(big == turns)) ++ ptsForm ps (!(big == turns)) := by rw [← Hf.out]; dsimp only; rw [hgd]
      have hlen : (accB acc f k).length ≤ 13 + k * 4809 := by
        have h1 := Hal.out
        have := accB_len (acc := acc) (f := f) (B := 4809) (k := k) fun i hi => by rw [← Hf.out]; dsimp only; rw [List.length_append, List.length_append, headB_length, if_pos rfl, num32_length, ptsForm_length]; have := Hns.out _ (mem_getD' (z := []) (show i < ls.length by have := Hn.out; omega)); omega
        omega
      have hstep : accB acc f (k + 1) = accB acc f k ++ f k := rfl
      have Hst := Lib.hid hstep
      generalize accB acc f k = ak at *
      have hk1 : (k : Int) < (n : Int) := by omega
      have hsr := hkr.size
      have hkw := hk0.trans hkr
      have Hown := Lib.hid hown
      clear hown hstep
      have HF : Hid (∀ (L1 : Nat) (w' : World), Kp w w' → L1 < w'.heap.size → w'.cell? ⟨L1, 0, none⟩ = some (.slice a' ps.length cap') →
          Calls Tryz.prog 7 #[.agg #[.int .i64 2, .slice (some ⟨L1, 0, none⟩) 1 1, .slice none 0 0], .int .i64 0, .bool (!(big == turns)), .bool turns] w' (RetY w' (headB 2 0 (!(big == turns)) ++ num32 ps.length (!(big == turns)) ++ ptsForm ps (!(big == turns))))) := Lib.hid (fun L1 w' hk h1 h2 =>
        form2_c 0 (by decide) (!(big == turns)) turns ps h300 L1 0 1 none 0 0 a' cap' w' h1 h2 (hin.kp hk) hbits)
      have hpl : (headB 2 0 (!(big == turns)) ++ num32 ps.length (!(big == turns)) ++ ptsForm ps (!(big == turns))).length ≤ 4809 := by rw [List.length_append, List.length_append, headB_length, num32_length, ptsForm_length]; simp; omega
      generalize headB 2 0 (!(big == turns)) ++ num32 ps.length (!(big == turns)) ++ ptsForm ps (!(big == turns)) = pf at *
      have Hfk := Lib.hid hfk
      have Hpl := Lib.hid hpl
      obtain ⟨m, hm⟩ : ∃ m, ps.length = m := ⟨_, rfl⟩
      rw [hm] at hc HF
      clear hfk hpl hgd hps hin hbits hkp hm h300
      go_wp2_with (first | (go_at_call 7; (with_reducible refine (HF.out _ _ (by repeat (first | (with_reducible exact Kp.refl _) | (with_reducible assumption) | (with_reducible apply Kp.ext) | (with_reducible apply Kp.alloc) | (with_reducible apply Kp.drew) | (with_reducible apply Kp.drewN) | (with_reducible refine Kp.setCell ?_ (by first | (dsimp only; omega) | (simp; omega) | (simp; done) | (simp [size_ext_eq]; omega)) _))) (by simp) (by simp [go_sem])).mono ?_); rintro e w1 ⟨v1, u1, rfl, rfl, ho1⟩; obtain ⟨g3, cap3, rfl, _⟩ := ho1.form; have O3 := Lib.hid ho1; clear ho1) | (at_builtin; refine wpList_append_bytes rfl (.tmp 139) (.tmp 145) rfl W.heap.size _ (ak) rfl (OwnB.kp Hown.out (by repeat (first | (with_reducible exact Kp.refl _) | (with_reducible assumption) | (with_reducible apply Kp.ext) | (with_reducible apply Kp.alloc) | (with_reducible apply Kp.drew) | (with_reducible apply Kp.drewN) | (with_reducible refine Kp.setCell ?_ (by first | (dsimp only; omega) | (simp; omega) | (simp; done) | (simp [size_ext_eq]; omega)) _)))) g3 0 _ _ (pf) rfl rfl ?d2 ?d3 ?d4 ?d5 ?_))
      case d2 =>
        obtain ⟨hs, _, _, _, _, ha⟩ := O3.out.at
        exact ha.kp hs (by repeat (first | (with_reducible exact Kp.refl _) | (with_reducible assumption) | (with_reducible apply Kp.ext) | (with_reducible apply Kp.alloc) | (with_reducible apply Kp.drew) | (with_reducible apply Kp.drewN) | (with_reducible refine Kp.setCell ?_ (by first | (dsimp only; omega) | (simp; omega) | (simp; done) | (simp [size_ext_eq]; omega)) _)))
      case d3 => have := Hpl.out; omega
      case d4 => have := Hpl.out; omega
      case d5 => simp [size_ext_eq]; first | done | omega
      intro v2 w2 ho2 hbw2 _
      have hk2 : Kp W w2 := Below.trans (show Kp W _ from (by repeat (first | (with_reducible exact Kp.refl _) | (with_reducible assumption) | (with_reducible apply Kp.ext) | (with_reducible apply Kp.alloc) | (with_reducible apply Kp.drew) | (with_reducible apply Kp.drewN) | (with_reducible refine Kp.setCell ?_ (by first | (dsimp only; omega) | (simp; omega) | (simp; done) | (simp [size_ext_eq]; omega)) _)))) hbw2
      have e2 : ak ++ pf = accB acc f (k + 1) := by rw [Hst.out, Hfk.out]
      rw [e2] at ho2
      have Ho2 := Lib.hid ho2
      clear ho2 hbw2
      go_wp2_with fail
      go_roundw
      case rel => exact ⟨k + 1, by omega, by go_num, hk2, Ho2.out⟩
      case measure => simp [intOf]; omega
    · obtain rfl : k = n := by omega
      have Hown := Lib.hid (OwnB.base hown hk0.size)
      clear hown
      go_wp2_with fail
      go_ret
      exact ⟨_, _, rfl, ext_of (hk0.trans hkr), Hown.out⟩


set_option maxRecDepth 20000 in
set_option maxHeartbeats 2000000 in
theorem form6_c (s : Nat) (hs : s ≤ 999999) (big turns : Bool) (g : Nat → List Nat) (hgl : ∀ i, (g i).length ≤ 15000000000) (qs : List Sh) (h40 : qs.length ≤ 40) (d : Nat) (a1 : Option Addr) (n1 c1 : Nat) (a : Option Addr) (cap : Nat) (w : World)
    (hpt : qs = [] ∨ ∃ b off, a = some ⟨b, off, none⟩ ∧ b < w.heap.size ∧ ∀ (i : Nat) (h : i < qs.length), ∃ lv' pv', w.cell? ⟨b, off + i * 3, none⟩ = some (.int .i64 (qs[i]'h).kind) ∧ w.cell? ⟨b, off + i * 3 + 1, none⟩ = some lv' ∧ w.cell? ⟨b, off + i * 3 + 2, none⟩ = some pv' ∧ ShIn d w lv' pv' (qs[i]'h))
    (ih : ∀ (i : Nat) (h : i < qs.length) (lv pv : Value) (w : World), ShIn d w lv pv (qs[i]'h) → Calls Tryz.prog 7 #[.agg #[.int .i64 (qs[i]'h).kind, lv, pv], .int .i64 0, .bool (!(big == turns)), .bool turns] w (RetY w (g i))) :
    Calls Tryz.prog 7 #[.agg #[.int .i64 6, .slice a1 n1 c1, .slice a qs.length cap], .int .i64 (s : Int), .bool big, .bool turns] w (RetY w (accB (headB 6 s big ++ num32 qs.length big) (g) qs.length)) := by
  have HH : Hid (∀ w', Calls Tryz.prog 21 #[.int .i64 6, .int .i64 (s : Int), .bool big] w' (RetY w' (headB 6 s big))) := Lib.hid (fun w' => head_c 6 (by decide) (by decide) s hs big w')
  have HN := Lib.hid (fun w' => number32_c qs.length (by omega) big w')
  have l3 := num32_length qs.length big
  have l1 := headB_length 6 s big
  obtain ⟨f, hf⟩ : ∃ f : Nat → List Nat, (g) = f := ⟨_, rfl⟩
  rw [hf]
  have Hf := Lib.hid hf
  clear hf
  have Hpt := Lib.hid hpt
  have Ih := Lib.hid ih
  have Hgl := Lib.hid hgl
  clear hpt ih hgl
  obtain ⟨n, hn⟩ : ∃ n, qs.length = n := ⟨_, rfl⟩
  rw [hn] at HN l3 ⊢
  rw [hn] at h40
  have Hn := Lib.hid hn
  clear hn
  generalize headB 6 s big = hd at *
  have l1' : hd.length ≤ 9 := by rw [l1]; split <;> omega
  generalize num32 n big = nb at *
  have L4 := Lib.hid l3
  have L1 := Lib.hid l1'
  clear l1 l1' l3
  go_enter Tryz.func7, Tryz.ntmps7
  go_wp2_with fail
  have hB := Box3.new w (.int .i64 6) (.slice a1 n1 c1) (.slice a n cap) 30
  have hk0 := (Kp.refl w).alloc (.cells #[.int .i64 6, .slice a1 n1 c1, .slice a n cap] 30)
  generalize w.alloc (.cells #[.int .i64 6, .slice a1 n1 c1, .slice a n cap] 30) = W at *
  obtain ⟨i0, b0, b1, b2⟩ := id hB
  go_wp2_with (first | (go_at_call 21; (with_reducible refine (HH.out _).mono ?_); rintro e w1 ⟨v1, u1, rfl, rfl, ho1⟩; obtain ⟨g1, cap1, rfl, _⟩ := ho1.form; have O1 := Lib.hid ho1; clear ho1) | (go_at_call 23; (with_reducible refine (HN.out _).mono ?_); rintro e w1 ⟨v1, u1, rfl, rfl, ho1⟩; obtain ⟨g2, cap2, rfl, _⟩ := ho1.form; have O2 := Lib.hid ho1; clear ho1) | (at_builtin; refine wpList_append_bytes rfl (.tmp 149) (.tmp 155) rfl W.heap.size _ (hd) rfl (OwnB.kp O1.out (by repeat (first | (with_reducible exact Kp.refl _) | (with_reducible assumption) | (with_reducible apply Kp.ext) | (with_reducible apply Kp.alloc) | (with_reducible apply Kp.drew) | (with_reducible apply Kp.drewN) | (with_reducible refine Kp.setCell ?_ (by first | (dsimp only; omega) | (simp; omega) | (simp; done) | (simp [size_ext_eq]; omega)) _)))) g2 0 _ _ (nb) rfl rfl ?c2 ?c3 ?c4 ?c5 ?_))
  case c2 =>
    obtain ⟨hs, _, _, _, _, ha⟩ := O2.out.at
    exact ha.kp hs (by repeat (first | (with_reducible exact Kp.refl _) | (with_reducible assumption) | (with_reducible apply Kp.ext) | (with_reducible apply Kp.alloc) | (with_reducible apply Kp.drew) | (with_reducible apply Kp.drewN) | (with_reducible refine Kp.setCell ?_ (by first | (dsimp only; omega) | (simp; omega) | (simp; done) | (simp [size_ext_eq]; omega)) _)))
  case c3 => have := L1.out; have := L4.out; omega
  case c4 => have := L1.out; have := L4.out; omega
  case c5 => simp [size_ext_eq]; first | done | omega
  intro v' w' ho hbw _
  have hkW : Kp W w' := Below.trans (show Kp W _ from (by repeat (first | (with_reducible exact Kp.refl _) | (with_reducible assumption) | (with_reducible apply Kp.ext) | (with_reducible apply Kp.alloc) | (with_reducible apply Kp.drew) | (with_reducible apply Kp.drewN) | (with_reducible refine Kp.setCell ?_ (by first | (dsimp only; omega) | (simp; omega) | (simp; done) | (simp [size_ext_eq]; omega)) _)))) hbw
  have hB' := hB.kp hkW
  obtain ⟨i1, d0, d1, d2⟩ := id hB'
  have hsW := hkW.size
  have hal : (hd ++ nb).length ≤ 13 := by rw [List.length_append]; have := L1.out; have := L4.out; omega
  generalize hd ++ nb = acc at *
  have Hal := Lib.hid hal
  have Ho := Lib.hid ho
  have HB := Lib.hid hB'
  clear ho hbw O1 O2 b0 b1 b2 i0 hB hB' hal
  go_wp2_with fail
  go_loopw [9, 160] (fun s9 sI wr => ∃ k : Nat, k ≤ n ∧ sI = .int .i64 k ∧ Kp W wr ∧ OwnB W.heap.size wr s9 (accB acc f k)) (fun _ sI _ => n - (intOf sI).toNat)
  case atStart => exact ⟨0, Nat.zero_le _, rfl, hkW, Ho.out⟩
  case round =>
    obtain ⟨k, hkn, rfl, hkr, hown⟩ := hrel
    by_cases hlt : k < n
    · have hkp := hlt
      rw [← Hn.out] at hkp
      obtain ⟨b, off, rfl, hb, hcell⟩ : ∃ b off, a = some ⟨b, off, none⟩ ∧ b < w.heap.size ∧ ∀ (i : Nat) (h : i < qs.length), ∃ lv' pv', w.cell? ⟨b, off + i * 3, none⟩ = some (.int .i64 (qs[i]'h).kind) ∧ w.cell? ⟨b, off + i * 3 + 1, none⟩ = some lv' ∧ w.cell? ⟨b, off + i * 3 + 2, none⟩ = some pv' ∧ ShIn d w lv' pv' (qs[i]'h) := by
        rcases Hpt.out with h | h
        · rw [h] at hkp; simp at hkp
        · exact h
      obtain ⟨lv', pv', g0', g1', g2', g3⟩ := hcell k hkp
      obtain ⟨⟨a3, n3, c3, rfl⟩, a4, n4, c4, rfl⟩ := g3.form
      have hkq := hk0.trans hkr
      have g0 := Kp.cell hkq g0' hb
      have g1 := Kp.cell hkq g1' hb
      have g2 := Kp.cell hkq g2' hb
      clear g0' g1' g2'
      have hbx := Nat.lt_of_lt_of_le hb hkq.size
      have hI := fun w' (hk' : Kp w w') => Ih.out k hkp _ _ w' (g3.kp hk')
      obtain ⟨q, hq⟩ : ∃ q, qs[k]'hkp = q := ⟨_, rfl⟩
      simp only [hq] at g0 hI
      have hfk : f k = g k := by rw [← Hf.out]
      have hlen : (accB acc f k).length ≤ 13 + k * 15000000000 := by
        have h1 := Hal.out
        have := accB_len (acc := acc) (f := f) (B := 15000000000) (k := k) fun i hi => by rw [← Hf.out]; exact Hgl.out i
        omega
      have hstep : accB acc f (k + 1) = accB acc f k ++ f k := rfl
      have Hst := Lib.hid hstep
      generalize accB acc f k = ak at *
      have hk1 : (k : Int) < (n : Int) := by omega
      have hsr := hkr.size
      have hkw := hk0.trans hkr
      have Hown := Lib.hid hown
      clear hown hstep
      have HI := Lib.hid hI
      have hpl := Hgl.out k
      generalize g k = pf at *
      have Hfk := Lib.hid hfk
      have Hpl := Lib.hid hpl
      clear hfk hpl hq hcell hkp hI g3
      go_wp2_with (first | (go_at_call 7; (with_reducible refine (HI.out _ (by repeat (first | (with_reducible exact Kp.refl _) | (with_reducible assumption) | (with_reducible apply Kp.ext) | (with_reducible apply Kp.alloc) | (with_reducible apply Kp.drew) | (with_reducible apply Kp.drewN) | (with_reducible refine Kp.setCell ?_ (by first | (dsimp only; omega) | (simp; omega) | (simp; done) | (simp [size_ext_eq]; omega)) _)))).mono ?_); rintro e w1 ⟨v1, u1, rfl, rfl, ho1⟩; obtain ⟨g3, cap3, rfl, _⟩ := ho1.form; have O3 := Lib.hid ho1; clear ho1) | (at_builtin; refine wpList_append_bytes rfl (.tmp 164) (.tmp 168) rfl W.heap.size _ (ak) rfl (OwnB.kp Hown.out (by repeat (first | (with_reducible exact Kp.refl _) | (with_reducible assumption) | (with_reducible apply Kp.ext) | (with_reducible apply Kp.alloc) | (with_reducible apply Kp.drew) | (with_reducible apply Kp.drewN) | (with_reducible refine Kp.setCell ?_ (by first | (dsimp only; omega) | (simp; omega) | (simp; done) | (simp [size_ext_eq]; omega)) _)))) g3 0 _ _ (pf) rfl rfl ?d2 ?d3 ?d4 ?d5 ?_))
      case d2 =>
        obtain ⟨hs, _, _, _, _, ha⟩ := O3.out.at
        exact ha.kp hs (by repeat (first | (with_reducible exact Kp.refl _) | (with_reducible assumption) | (with_reducible apply Kp.ext) | (with_reducible apply Kp.alloc) | (with_reducible apply Kp.drew) | (with_reducible apply Kp.drewN) | (with_reducible refine Kp.setCell ?_ (by first | (dsimp only; omega) | (simp; omega) | (simp; done) | (simp [size_ext_eq]; omega)) _)))
      case d3 => have := Hpl.out; omega
      case d4 => have := Hpl.out; omega
      case d5 => simp [size_ext_eq]; first | done | omega
      intro v2 w2 ho2 hbw2 _
      have hk2 : Kp W w2 := Below.trans (show Kp W _ from (by repeat (first | (with_reducible exact Kp.refl _) | (with_reducible assumption) | (with_reducible apply Kp.ext) | (with_reducible apply Kp.alloc) | (with_reducible apply Kp.drew) | (with_reducible apply Kp.drewN) | (with_reducible refine Kp.setCell ?_ (by first | (dsimp only; omega) | (simp; omega) | (simp; done) | (simp [size_ext_eq]; omega)) _)))) hbw2
      have e2 : ak ++ pf = accB acc f (k + 1) := by rw [Hst.out, Hfk.out]
      rw [e2] at ho2
      have Ho2 := Lib.hid ho2
      clear ho2 hbw2
      go_wp2_with fail
      go_roundw
      case rel => exact ⟨k + 1, by omega, by go_num, hk2, Ho2.out⟩
      case measure => simp [intOf]; omega
    · obtain rfl : k = n := by omega
      have Hown := Lib.hid (OwnB.base hown hk0.size)
      clear hown
      go_wp2_with fail
      go_ret
      exact ⟨_, _, rfl, ext_of (hk0.trans hkr), Hown.out⟩


set_option maxRecDepth 20000 in
set_option maxHeartbeats 2000000 in
theorem form7_c (s : Nat) (hs : s ≤ 999999) (big turns : Bool) (g : Nat → List Nat) (hgl : ∀ i, (g i).length ≤ 15000000000) (qs : List Sh) (h40 : qs.length ≤ 40) (d : Nat) (a1 : Option Addr) (n1 c1 : Nat) (a : Option Addr) (cap : Nat) (w : World)
    (hpt : qs = [] ∨ ∃ b off, a = some ⟨b, off, none⟩ ∧ b < w.heap.size ∧ ∀ (i : Nat) (h : i < qs.length), ∃ lv' pv', w.cell? ⟨b, off + i * 3, none⟩ = some (.int .i64 (qs[i]'h).kind) ∧ w.cell? ⟨b, off + i * 3 + 1, none⟩ = some lv' ∧ w.cell? ⟨b, off + i * 3 + 2, none⟩ = some pv' ∧ ShIn d w lv' pv' (qs[i]'h))
    (ih : ∀ (i : Nat) (h : i < qs.length) (lv pv : Value) (w : World), ShIn d w lv pv (qs[i]'h) → Calls Tryz.prog 7 #[.agg #[.int .i64 (qs[i]'h).kind, lv, pv], .int .i64 0, .bool (!(big == turns)), .bool turns] w (RetY w (g i))) :
    Calls Tryz.prog 7 #[.agg #[.int .i64 7, .slice a1 n1 c1, .slice a qs.length cap], .int .i64 (s : Int), .bool big, .bool turns] w (RetY w (accB (headB 7 s big ++ num32 qs.length big) (g) qs.length)) := by
  have HH : Hid (∀ w', Calls Tryz.prog 21 #[.int .i64 7, .int .i64 (s : Int), .bool big] w' (RetY w' (headB 7 s big))) := Lib.hid (fun w' => head_c 7 (by decide) (by decide) s hs big w')
  have HN := Lib.hid (fun w' => number32_c qs.length (by omega) big w')
  have l3 := num32_length qs.length big
  have l1 := headB_length 7 s big
  obtain ⟨f, hf⟩ : ∃ f : Nat → List Nat, (g) = f := ⟨_, rfl⟩
  rw [hf]
  have Hf := Lib.hid hf
  clear hf
  have Hpt := Lib.hid hpt
  have Ih := Lib.hid ih
  have Hgl := Lib.hid hgl
  clear hpt ih hgl
  obtain ⟨n, hn⟩ : ∃ n, qs.length = n := ⟨_, rfl⟩
  rw [hn] at HN l3 ⊢
  rw [hn] at h40
  have Hn := Lib.hid hn
  clear hn
  generalize headB 7 s big = hd at *
  have l1' : hd.length ≤ 9 := by rw [l1]; split <;> omega
  generalize num32 n big = nb at *
  have L4 := Lib.hid l3
  have L1 := Lib.hid l1'
  clear l1 l1' l3
  go_enter Tryz.func7, Tryz.ntmps7
  go_wp2_with fail
  have hB := Box3.new w (.int .i64 7) (.slice a1 n1 c1) (.slice a n cap) 30
  have hk0 := (Kp.refl w).alloc (.cells #[.int .i64 7, .slice a1 n1 c1, .slice a n cap] 30)
  generalize w.alloc (.cells #[.int .i64 7, .slice a1 n1 c1, .slice a n cap] 30) = W at *
  obtain ⟨i0, b0, b1, b2⟩ := id hB
  go_wp2_with (first | (go_at_call 21; (with_reducible refine (HH.out _).mono ?_); rintro e w1 ⟨v1, u1, rfl, rfl, ho1⟩; obtain ⟨g1, cap1, rfl, _⟩ := ho1.form; have O1 := Lib.hid ho1; clear ho1) | (go_at_call 23; (with_reducible refine (HN.out _).mono ?_); rintro e w1 ⟨v1, u1, rfl, rfl, ho1⟩; obtain ⟨g2, cap2, rfl, _⟩ := ho1.form; have O2 := Lib.hid ho1; clear ho1) | (at_builtin; refine wpList_append_bytes rfl (.tmp 149) (.tmp 155) rfl W.heap.size _ (hd) rfl (OwnB.kp O1.out (by repeat (first | (with_reducible exact Kp.refl _) | (with_reducible assumption) | (with_reducible apply Kp.ext) | (with_reducible apply Kp.alloc) | (with_reducible apply Kp.drew) | (with_reducible apply Kp.drewN) | (with_reducible refine Kp.setCell ?_ (by first | (dsimp only; omega) | (simp; omega) | (simp; done) | (simp [size_ext_eq]; omega)) _)))) g2 0 _ _ (nb) rfl rfl ?c2 ?c3 ?c4 ?c5 ?_))
  case c2 =>
    obtain ⟨hs, _, _, _, _, ha⟩ := O2.out.at
    exact ha.kp hs (by repeat (first | (with_reducible exact Kp.refl _) | (with_reducible assumption) | (with_reducible apply Kp.ext) | (with_reducible apply Kp.alloc) | (with_reducible apply Kp.drew) | (with_reducible apply Kp.drewN) | (with_reducible refine Kp.setCell ?_ (by first | (dsimp only; omega) | (simp; omega) | (simp; done) | (simp [size_ext_eq]; omega)) _)))
  case c3 => have := L1.out; have := L4.out; omega
  case c4 => have := L1.out; have := L4.out; omega
  case c5 => simp [size_ext_eq]; first | done | omega
  intro v' w' ho hbw _
  have hkW : Kp W w' := Below.trans (show Kp W _ from (by repeat (first | (with_reducible exact Kp.refl _) | (with_reducible assumption) | (with_reducible apply Kp.ext) | (with_reducible apply Kp.alloc) | (with_reducible apply Kp.drew) | (with_reducible apply Kp.drewN) | (with_reducible refine Kp.setCell ?_ (by first | (dsimp only; omega) | (simp; omega) | (simp; done) | (simp [size_ext_eq]; omega)) _)))) hbw
  have hB' := hB.kp hkW
  obtain ⟨i1, d0, d1, d2⟩ := id hB'
  have hsW := hkW.size
  have hal : (hd ++ nb).length ≤ 13 := by rw [List.length_append]; have := L1.out; have := L4.out; omega
  generalize hd ++ nb = acc at *
  have Hal := Lib.hid hal
  have Ho := Lib.hid ho
  have HB := Lib.hid hB'
  clear ho hbw O1 O2 b0 b1 b2 i0 hB hB' hal
  go_wp2_with fail
  go_loopw [9, 160] (fun s9 sI wr => ∃ k : Nat, k ≤ n ∧ sI = .int .i64 k ∧ Kp W wr ∧ OwnB W.heap.size wr s9 (accB acc f k)) (fun _ sI _ => n - (intOf sI).toNat)
  case atStart => exact ⟨0, Nat.zero_le _, rfl, hkW, Ho.out⟩
  case round =>
    obtain ⟨k, hkn, rfl, hkr, hown⟩ := hrel
    by_cases hlt : k < n
    · have hkp := hlt
      rw [← Hn.out] at hkp
      obtain ⟨b, off, rfl, hb, hcell⟩ : ∃ b off, a = some ⟨b, off, none⟩ ∧ b < w.heap.size ∧ ∀ (i : Nat) (h : i < qs.length), ∃ lv' pv', w.cell? ⟨b, off + i * 3, none⟩ = some (.int .i64 (qs[i]'h).kind) ∧ w.cell? ⟨b, off + i * 3 + 1, none⟩ = some lv' ∧ w.cell? ⟨b, off + i * 3 + 2, none⟩ = some pv' ∧ ShIn d w lv' pv' (qs[i]'h) := by
        rcases Hpt.out with h | h
        · rw [h] at hkp; simp at hkp
        · exact h
      obtain ⟨lv', pv', g0', g1', g2', g3⟩ := hcell k hkp
      obtain ⟨⟨a3, n3, c3, rfl⟩, a4, n4, c4, rfl⟩ := g3.form
      have hkq := hk0.trans hkr
      have g0 := Kp.cell hkq g0' hb
      have g1 := Kp.cell hkq g1' hb
      have g2 := Kp.cell hkq g2' hb
      clear g0' g1' g2'
      have hbx := Nat.lt_of_lt_of_le hb hkq.size
      have hI := fun w' (hk' : Kp w w') => Ih.out k hkp _ _ w' (g3.kp hk')
      obtain ⟨q, hq⟩ : ∃ q, qs[k]'hkp = q := ⟨_, rfl⟩
      simp only [hq] at g0 hI
      have hfk : f k = g k := by rw [← Hf.out]
      have hlen : (accB acc f k).length ≤ 13 + k * 15000000000 := by
        have h1 := Hal.out
        have := accB_len (acc := acc) (f := f) (B := 15000000000) (k := k) fun i hi => by rw [← Hf.out]; exact Hgl.out i
        omega
      have hstep : accB acc f (k + 1) = accB acc f k ++ f k := rfl
      have Hst := Lib.hid hstep
      generalize accB acc f k = ak at *
      have hk1 : (k : Int) < (n : Int) := by omega
      have hsr := hkr.size
      have hkw := hk0.trans hkr
      have Hown := Lib.hid hown
      clear hown hstep
      have HI := Lib.hid hI
      have hpl := Hgl.out k
      generalize g k = pf at *
      have Hfk := Lib.hid hfk
      have Hpl := Lib.hid hpl
      clear hfk hpl hq hcell hkp hI g3
      go_wp2_with (first | (go_at_call 7; (with_reducible refine (HI.out _ (by repeat (first | (with_reducible exact Kp.refl _) | (with_reducible assumption) | (with_reducible apply Kp.ext) | (with_reducible apply Kp.alloc) | (with_reducible apply Kp.drew) | (with_reducible apply Kp.drewN) | (with_reducible refine Kp.setCell ?_ (by first | (dsimp only; omega) | (simp; omega) | (simp; done) | (simp [size_ext_eq]; omega)) _)))).mono ?_); rintro e w1 ⟨v1, u1, rfl, rfl, ho1⟩; obtain ⟨g3, cap3, rfl, _⟩ := ho1.form; have O3 := Lib.hid ho1; clear ho1) | (at_builtin; refine wpList_append_bytes rfl (.tmp 164) (.tmp 168) rfl W.heap.size _ (ak) rfl (OwnB.kp Hown.out (by repeat (first | (with_reducible exact Kp.refl _) | (with_reducible assumption) | (with_reducible apply Kp.ext) | (with_reducible apply Kp.alloc) | (with_reducible apply Kp.drew) | (with_reducible apply Kp.drewN) | (with_reducible refine Kp.setCell ?_ (by first | (dsimp only; omega) | (simp; omega) | (simp; done) | (simp [size_ext_eq]; omega)) _)))) g3 0 _ _ (pf) rfl rfl ?d2 ?d3 ?d4 ?d5 ?_))
      case d2 =>
        obtain ⟨hs, _, _, _, _, ha⟩ := O3.out.at
        exact ha.kp hs (by repeat (first | (with_reducible exact Kp.refl _) | (with_reducible assumption) | (with_reducible apply Kp.ext) | (with_reducible apply Kp.alloc) | (with_reducible apply Kp.drew) | (with_reducible apply Kp.drewN) | (with_reducible refine Kp.setCell ?_ (by first | (dsimp only; omega) | (simp; omega) | (simp; done) | (simp [size_ext_eq]; omega)) _)))
      case d3 => have := Hpl.out; omega
      case d4 => have := Hpl.out; omega
      case d5 => simp [size_ext_eq]; first | done | omega
      intro v2 w2 ho2 hbw2 _
      have hk2 : Kp W w2 := Below.trans (show Kp W _ from (by repeat (first | (with_reducible exact Kp.refl _) | (with_reducible assumption) | (with_reducible apply Kp.ext) | (with_reducible apply Kp.alloc) | (with_reducible apply Kp.drew) | (with_reducible apply Kp.drewN) | (with_reducible refine Kp.setCell ?_ (by first | (dsimp only; omega) | (simp; omega) | (simp; done) | (simp [size_ext_eq]; omega)) _)))) hbw2
      have e2 : ak ++ pf = accB acc f (k + 1) := by rw [Hst.out, Hfk.out]
      rw [e2] at ho2
      have Ho2 := Lib.hid ho2
      clear ho2 hbw2
      go_wp2_with fail
      go_roundw
      case rel => exact ⟨k + 1, by omega, by go_num, hk2, Ho2.out⟩
      case measure => simp [intOf]; omega
    · obtain rfl : k = n := by omega
      have Hown := Lib.hid (OwnB.base hown hk0.size)
      clear hown
      go_wp2_with fail
      go_ret
      exact ⟨_, _, rfl, ext_of (hk0.trans hkr), Hown.out⟩

end Go.Proofs.YtobdohhabgnjiaaGreatDoor

set_option linter.all false
namespace Go.Proofs.YtobdohhabgnjiaaGreatDoor
open PubFl Go.RowKit

/-- the binary form of a shape, so many levels deep -/
def formSh : Nat → Sh → Nat → Bool → Bool → List Nat
  | 0, _, _, _, _ => []
  | d + 1, s, sys, big, turns =>
    if s.kind = 1 then headB 1 sys big ++ ptsForm (s.lists.getD 0 []) big
    else if s.kind = 2 then headB 2 sys big ++ num32 (s.lists.getD 0 []).length big ++ ptsForm (s.lists.getD 0 []) big
    else if s.kind = 3 then accB (headB 3 sys big ++ num32 s.lists.length big) (fun i => num32 (s.lists.getD i []).length big ++ ptsForm (s.lists.getD i []) big) s.lists.length
    else if s.kind = 4 then accB (headB 4 sys big ++ num32 (s.lists.getD 0 []).length big) (fun i => headB 1 0 (!(big == turns)) ++ ptsForm [(s.lists.getD 0 []).getD i (0, 0)] (!(big == turns))) (s.lists.getD 0 []).length
    else if s.kind = 5 then accB (headB 5 sys big ++ num32 s.lists.length big) (fun i => headB 2 0 (!(big == turns)) ++ num32 (s.lists.getD i []).length (!(big == turns)) ++ ptsForm (s.lists.getD i []) (!(big == turns))) s.lists.length
    else if s.kind = 6 then accB (headB 6 sys big ++ num32 s.parts.length big) (fun i => formSh d (s.parts.getD i dsh) 0 (!(big == turns)) turns) s.parts.length
    else accB (headB 7 sys big ++ num32 s.parts.length big) (fun i => formSh d (s.parts.getD i dsh) 0 (!(big == turns)) turns) s.parts.length
theorem formSh_1 {d : Nat} {s : Sh} (h : s.kind = 1) (sys : Nat) (big turns : Bool) : formSh (d + 1) s sys big turns = headB 1 sys big ++ ptsForm (s.lists.getD 0 []) big := by
  conv => lhs; unfold formSh
  rw [if_pos h]
theorem formSh_2 {d : Nat} {s : Sh} (h : s.kind = 2) (sys : Nat) (big turns : Bool) : formSh (d + 1) s sys big turns = headB 2 sys big ++ num32 (s.lists.getD 0 []).length big ++ ptsForm (s.lists.getD 0 []) big := by
  conv => lhs; unfold formSh
  rw [if_neg (by omega), if_pos h]
theorem formSh_3 {d : Nat} {s : Sh} (h : s.kind = 3) (sys : Nat) (big turns : Bool) : formSh (d + 1) s sys big turns = accB (headB 3 sys big ++ num32 s.lists.length big) (fun i => num32 (s.lists.getD i []).length big ++ ptsForm (s.lists.getD i []) big) s.lists.length := by
  conv => lhs; unfold formSh
  rw [if_neg (by omega), if_neg (by omega), if_pos h]
theorem formSh_4 {d : Nat} {s : Sh} (h : s.kind = 4) (sys : Nat) (big turns : Bool) : formSh (d + 1) s sys big turns = accB (headB 4 sys big ++ num32 (s.lists.getD 0 []).length big) (fun i => headB 1 0 (!(big == turns)) ++ ptsForm [(s.lists.getD 0 []).getD i (0, 0)] (!(big == turns))) (s.lists.getD 0 []).length := by
  conv => lhs; unfold formSh
  rw [if_neg (by omega), if_neg (by omega), if_neg (by omega), if_pos h]
theorem formSh_5 {d : Nat} {s : Sh} (h : s.kind = 5) (sys : Nat) (big turns : Bool) : formSh (d + 1) s sys big turns = accB (headB 5 sys big ++ num32 s.lists.length big) (fun i => headB 2 0 (!(big == turns)) ++ num32 (s.lists.getD i []).length (!(big == turns)) ++ ptsForm (s.lists.getD i []) (!(big == turns))) s.lists.length := by
  conv => lhs; unfold formSh
  rw [if_neg (by omega), if_neg (by omega), if_neg (by omega), if_neg (by omega), if_pos h]
theorem formSh_6 {d : Nat} {s : Sh} (h : s.kind = 6) (sys : Nat) (big turns : Bool) : formSh (d + 1) s sys big turns = accB (headB 6 sys big ++ num32 s.parts.length big) (fun i => formSh d (s.parts.getD i dsh) 0 (!(big == turns)) turns) s.parts.length := by
  conv => lhs; unfold formSh
  rw [if_neg (by omega), if_neg (by omega), if_neg (by omega), if_neg (by omega), if_neg (by omega), if_pos h]
theorem formSh_7 {d : Nat} {s : Sh} (h : s.kind = 7) (sys : Nat) (big turns : Bool) : formSh (d + 1) s sys big turns = accB (headB 7 sys big ++ num32 s.parts.length big) (fun i => formSh d (s.parts.getD i dsh) 0 (!(big == turns)) turns) s.parts.length := by
  conv => lhs; unfold formSh
  rw [if_neg (by omega), if_neg (by omega), if_neg (by omega), if_neg (by omega), if_neg (by omega), if_neg (by omega)]
theorem head_le (k s : Nat) (big : Bool) : (headB k s big).length ≤ 9 := by rw [headB_length]; split <;> omega
theorem getD_le {ls : List (List (Nat × Nat))} (h : ∀ l ∈ ls, l.length ≤ 300) (i : Nat) : (ls.getD i []).length ≤ 300 := by
  by_cases c : i < ls.length
  · exact h _ (mem_getD' c)
  · rw [List.getD_eq_getElem?_getD, List.getElem?_eq_none (by omega)]; simp
/-- a kind's number, whatever it is -/
theorem formSh_len : ∀ {d : Nat} {s : Sh} (sys : Nat) (big turns : Bool), cntOk d s = true → Small d s → (formSh d s sys big turns).length ≤ 200000 * 41 ^ d
  | 0, _, _, _, _, h, _ => by cases h
  | d + 1, s, sys, big, turns, hok, hsm => by
    obtain ⟨h1, h2, h3⟩ := cntOk_parts hok
    obtain ⟨k1, k2, k3, k4⟩ := shHead_spec h1
    have hp : 1 ≤ 41 ^ d := Nat.pow_pos (by decide)
    have hg0 := getD_le hsm.1 0
    have hacc : ∀ (k n : Nat) (f : Nat → List Nat) (B m : Nat), (∀ i, i < m → (f i).length ≤ B) → (accB (headB k sys big ++ num32 n big) f m).length ≤ 13 + m * B := fun k n f B m h => by
      have := accB_len (acc := headB k sys big ++ num32 n big) (f := f) (B := B) (k := m) h
      rw [List.length_append, num32_length] at this
      have := head_le k sys big
      omega
    have hrec : ∀ i, i < s.parts.length → (formSh d (s.parts.getD i dsh) 0 (!(big == turns)) turns).length ≤ 200000 * 41 ^ d := fun i hi =>
      formSh_len _ _ _ (h2 _ (mem_getD' hi)).1 (hsm.2 _ (mem_getD' hi))
    have hbig : s.parts.length * (200000 * 41 ^ d) ≤ 40 * (200000 * 41 ^ d) := Nat.mul_le_mul_right _ k4
    rw [Nat.pow_succ]
    rcases (show s.kind = 1 ∨ s.kind = 2 ∨ s.kind = 3 ∨ s.kind = 4 ∨ s.kind = 5 ∨ s.kind = 6 ∨ s.kind = 7 by omega) with hK | hK | hK | hK | hK | hK | hK
    · rw [formSh_1 hK, List.length_append, ptsForm_length]
      have := head_le 1 sys big
      omega
    · rw [formSh_2 hK, List.length_append, List.length_append, num32_length, ptsForm_length]
      have := head_le 2 sys big
      omega
    · rw [formSh_3 hK]
      have := hacc 3 s.lists.length (fun i => num32 (s.lists.getD i []).length big ++ ptsForm (s.lists.getD i []) big) 4804 s.lists.length fun i hi => by
        have := getD_le hsm.1 i
        rw [List.length_append, num32_length, ptsForm_length]; omega
      omega
    · rw [formSh_4 hK]
      have := hacc 4 (s.lists.getD 0 []).length (fun i => headB 1 0 (!(big == turns)) ++ ptsForm [(s.lists.getD 0 []).getD i (0, 0)] (!(big == turns))) 21 (s.lists.getD 0 []).length fun i hi => by
        rw [List.length_append, headB_length, if_pos rfl, ptsForm_length]
        exact Nat.le_refl _
      omega
    · rw [formSh_5 hK]
      have := hacc 5 s.lists.length (fun i => headB 2 0 (!(big == turns)) ++ num32 (s.lists.getD i []).length (!(big == turns)) ++ ptsForm (s.lists.getD i []) (!(big == turns))) 4809 s.lists.length fun i hi => by
        have := getD_le hsm.1 i
        rw [List.length_append, List.length_append, headB_length, if_pos rfl, num32_length, ptsForm_length]; omega
      omega
    · rw [formSh_6 hK]
      have := hacc 6 s.parts.length _ _ s.parts.length hrec
      omega
    · rw [formSh_7 hK]
      have := hacc 7 s.parts.length _ _ s.parts.length hrec
      omega
theorem form_dsh_len (d sys : Nat) (big turns : Bool) : (formSh d dsh sys big turns).length ≤ 13 := by
  cases d with
  | zero => exact Nat.zero_le _
  | succ d =>
    have h : (formSh (d + 1) dsh sys big turns) = headB 7 sys big ++ num32 0 big := rfl
    rw [h, List.length_append, num32_length]
    have := head_le 7 sys big
    omega
theorem form_c : ∀ (d : Nat), d ≤ 4 → ∀ (s : Sh) (sys : Nat), sys ≤ 999999 → ∀ (big turns : Bool) (lv pv : Value) (w : World), ShIn d w lv pv s → cntOk d s = true → Small d s →
    Calls Tryz.prog 7 #[.agg #[.int .i64 s.kind, lv, pv], .int .i64 (sys : Int), .bool big, .bool turns] w (RetY w (formSh d s sys big turns))
  | 0, _, _, _, _, _, _, _, _, _, _, h, _ => by cases h
  | d + 1, hd, s, sys, hsys, big, turns, lv, pv, w, hs, hok, hsm => by
    obtain ⟨h1, h2, h3⟩ := cntOk_parts hok
    obtain ⟨k1, k2, k3, k4⟩ := shHead_spec h1
    have hg0 := getD_le hsm.1 0
    obtain ⟨sl, sp⟩ := hsm
    have hl := hs.1
    obtain ⟨hl', a2, c2, rfl, _, hparts⟩ := hs
    obtain ⟨a1, c1, rfl, _, hget⟩ := hl'.get
    have hone : s.lists.length = 1 → ∃ L off a' cap', a1 = some ⟨L, off, none⟩ ∧ L < w.heap.size ∧ w.cell? ⟨L, off, none⟩ = some (.slice a' (s.lists.getD 0 []).length cap') ∧ PtsIn w a' (s.lists.getD 0 []) ∧ Bits (s.lists.getD 0 []) := by
      intro e
      obtain ⟨L, off, a', cap', ha, hL, hc, _, hin, hb⟩ := hget 0 (by omega)
      rw [getD_ls _ _ (by omega)]
      rw [Nat.add_zero] at hc
      exact ⟨L, off, a', cap', ha, hL, hc, hin, hb⟩
    have hgl : ∀ i, (formSh d (s.parts.getD i dsh) 0 (!(big == turns)) turns).length ≤ 15000000000 := fun i => by
      by_cases c : i < s.parts.length
      · have h5 := formSh_len 0 (!(big == turns)) turns (h2 _ (mem_getD' (z := dsh) c)).1 (sp _ (mem_getD' (z := dsh) c))
        have : 41 ^ d ≤ 41 ^ 3 := Nat.pow_le_pow_right (by decide) (by omega)
        have h41 : (41 : Nat) ^ 3 = 68921 := by decide
        omega
      · rw [List.getD_eq_getElem?_getD, List.getElem?_eq_none (by omega)]
        have := form_dsh_len d 0 (!(big == turns)) turns
        show (formSh d dsh 0 (!(big == turns)) turns).length ≤ _
        omega
    have ih : ∀ (i : Nat) (h : i < s.parts.length) (lv pv : Value) (w : World), ShIn d w lv pv (s.parts[i]'h) → Calls Tryz.prog 7 #[.agg #[.int .i64 (s.parts[i]'h).kind, lv, pv], .int .i64 0, .bool (!(big == turns)), .bool turns] w (RetY w (formSh d (s.parts.getD i dsh) 0 (!(big == turns)) turns)) := fun i h lv pv w g => by
      rw [getD_sh _ _ h]
      exact form_c d (by omega) _ 0 (by decide) (!(big == turns)) turns lv pv w g (h2 _ (List.getElem_mem h)).1 (sp _ (List.getElem_mem h))
    rcases (show s.kind = 1 ∨ s.kind = 2 ∨ s.kind = 3 ∨ s.kind = 4 ∨ s.kind = 5 ∨ s.kind = 6 ∨ s.kind = 7 by omega) with hK | hK | hK | hK | hK | hK | hK
    · rw [formB_1 hK] at h3
      simp only [Bool.and_eq_true, decide_eq_true_eq] at h3
      obtain ⟨L, off, a', cap', rfl, hL, hc, hin, hb⟩ := hone h3.1.1
      rw [formSh_1 hK, hK, h3.1.1]
      exact form1_c sys hsys big turns _ hg0 L off c1 a2 _ c2 a' cap' w hL hc hin hb
    · rw [formB_2 hK] at h3
      simp only [Bool.and_eq_true, decide_eq_true_eq] at h3
      obtain ⟨L, off, a', cap', rfl, hL, hc, hin, hb⟩ := hone h3.1
      rw [formSh_2 hK, hK, h3.1]
      exact form2_c sys hsys big turns _ hg0 L off c1 a2 _ c2 a' cap' w hL hc hin hb
    · rw [formSh_3 hK, hK]
      exact form3_c sys hsys big turns s.lists (by omega) sl a1 c1 a2 _ c2 w hl
    · rw [formB_4 hK] at h3
      simp only [Bool.and_eq_true, decide_eq_true_eq] at h3
      obtain ⟨L, off, a', cap', rfl, hL, hc, hin, hb⟩ := hone h3.1
      rw [formSh_4 hK, hK, h3.1]
      exact form4_c sys hsys big turns _ hg0 L off c1 a2 _ c2 a' cap' w hL hc hin hb
    · rw [formSh_5 hK, hK]
      exact form5_c sys hsys big turns s.lists (by omega) sl a1 c1 a2 _ c2 w hl
    · rw [formSh_6 hK, hK]
      exact form6_c sys hsys big turns (fun i => formSh d (s.parts.getD i dsh) 0 (!(big == turns)) turns) hgl s.parts (by omega) d a1 _ c1 a2 c2 w hparts ih
    · rw [formSh_7 hK, hK]
      exact form7_c sys hsys big turns (fun i => formSh d (s.parts.getD i dsh) 0 (!(big == turns)) turns) hgl s.parts (by omega) d a1 _ c1 a2 c2 w hparts ih
end Go.Proofs.YtobdohhabgnjiaaGreatDoor
