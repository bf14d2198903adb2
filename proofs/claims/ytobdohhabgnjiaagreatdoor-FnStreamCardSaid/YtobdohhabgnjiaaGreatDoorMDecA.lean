/-
  Numbers read out of bytes: leUint32 .. beUint64, unmarshalUint32.
  byteOrderType, unmarshalByteOrderType: the head of a form, read.
  unmarshalPoint, unmarshalPoints.
  unmarshalPoints, unmarshalLineString.
  ScanPoint, ScanLineString.
-/
import Derived.Test.YtobdohhabgnjiaaGreatDoorMForm
import Derived.Laws.BitsAllLaws
import Derived.Deep.RegionHeld3
import Derived.Deep.DrawnRows
import Derived.Laws.MakeOwn
import Derived.Test.YtobdohhabgnjiaaGreatDoorApp
import Derived.Test.YtobdohhabgnjiaaGreatDoorPgSh
set_option linter.all false
namespace Go.Proofs.YtobdohhabgnjiaaGreatDoor
open PubFl Go.RowKit

attribute [local go_sem] cell_ext frozen_ext ext_setCell cell_store size_ext_eq lt_p0 lt_p1 lt_p2 lt_p3 lt_p4 lt_p5 lt_p6 lt_p7 lt_p8 lt_p9 lt_p10 lt_p11 lt_p12 lt_p13 lt_p14 lt_p15 lt_p16 lt_p17 lt_p18 lt_p19 lt_p20 lt_p21 lt_p22 lt_p23 lt_p24 lt_p25 lt_p26 lt_p27 lt_p28 lt_p29 lt_p30 lt_p31 lt_p32 lt_q1 lt_q2 lt_q3 lt_q4 lt_q5 lt_q6 lt_q7 lt_q8 lt_q9 lt_q10 lt_q11 lt_q12 lt_q13 lt_q14 lt_q15 lt_q16 lt_q17 lt_q18 lt_q19 lt_q20 lt_q21 lt_q22 lt_q23 lt_q24 lt_q25 lt_q26 lt_q27 lt_q28 lt_q29 lt_q30 lt_q31 lt_q32 run_fop run_store_float
attribute [local go_sem high] cmp_eql cmp_neq cmp_lss cmp_leq cmp_gtr cmp_geq

theorem BytesAt.b0 {w : World} {g off : Nat} {a : Nat} {bs : List Nat} (h : BytesAt w g off (a :: bs)) : w.cell? ⟨g, off, none⟩ = some (.int .u8 (a : Int)) := h 0 (by simp)
theorem BytesAt.tl {w : World} {g off : Nat} {a : Nat} {bs : List Nat} (h : BytesAt w g off (a :: bs)) : BytesAt w g (off + 1) bs := fun i hi => by
  have := h (i + 1) (by simpa using hi)
  rw [show off + (i + 1) = off + 1 + i by omega] at this
  exact this
theorem or32_join (i x y : Nat) (hx : x % 2 ^ i = 0) (hy : y < 2 ^ i) (hx32 : x < 4294967296) (hy32 : y < 4294967296) : bits BinOp.or IntKind.u32 (y : Int) (x : Int) = ((y + x : Nat) : Int) := by
  rw [u32_or_nat _ _ hy32 hx32, Nat.or_comm, nat_join i x y hx hy, Nat.add_comm]
theorem or64_join (i x y : Nat) (hx : x % 2 ^ i = 0) (hy : y < 2 ^ i) (hx32 : x < 18446744073709551616) (hy32 : y < 18446744073709551616) : bits BinOp.or IntKind.u64 (y : Int) (x : Int) = ((y + x : Nat) : Int) := by
  rw [u64_or_nat _ _ hy32 hx32, Nat.or_comm, nat_join i x y hx hy, Nat.add_comm]
theorem or64_join' (i x y : Nat) (hx : x % 2 ^ i = 0) (hy : y < 2 ^ i) (hx32 : x < 18446744073709551616) (hy32 : y < 18446744073709551616) : bits BinOp.or IntKind.u64 (x : Int) (y : Int) = ((y + x : Nat) : Int) := by
  rw [u64_or_nat _ _ hx32 hy32, nat_join i x y hx hy, Nat.add_comm]
theorem or4 (b0 b1 b2 b3 : Nat) (k0 : b0 < 256) (k1 : b1 < 256) (k2 : b2 < 256) (k3 : b3 < 256) :
    bits BinOp.or IntKind.u32 (bits BinOp.or IntKind.u32 (bits BinOp.or IntKind.u32 (b0 : Int) ((b1 : Int) * 256)) ((b2 : Int) * 65536)) ((b3 : Int) * 16777216) = ((b0 + b1 * 256 + b2 * 65536 + b3 * 16777216 : Nat) : Int) := by
  rw [show ((b1 : Int) * 256) = ((b1 * 256 : Nat) : Int) by omega, show ((b2 : Int) * 65536) = ((b2 * 65536 : Nat) : Int) by omega, show ((b3 : Int) * 16777216) = ((b3 * 16777216 : Nat) : Int) by omega]
  rw [or32_join 8 _ _ (by omega) (by omega) (by omega) (by omega), or32_join 16 _ _ (by omega) (by omega) (by omega) (by omega), or32_join 24 _ _ (by omega) (by omega) (by omega) (by omega)]

set_option maxRecDepth 20000 in
set_option maxHeartbeats 1000000 in
theorem le32_raw (b0 b1 b2 b3 : Nat) (k0 : b0 < 256) (k1 : b1 < 256) (k2 : b2 < 256) (k3 : b3 < 256) (g off l c : Nat) (hl : 4 ≤ l) (w : World)
    (c0 : w.cell? ⟨g, off, none⟩ = some (.int .u8 (b0 : Int))) (c1 : w.cell? ⟨g, off + 1, none⟩ = some (.int .u8 (b1 : Int))) (c2 : w.cell? ⟨g, off + 2, none⟩ = some (.int .u8 (b2 : Int))) (c3 : w.cell? ⟨g, off + 3, none⟩ = some (.int .u8 (b3 : Int))) (hg : g < w.heap.size) :
    Calls Tryz.prog 90 #[.slice (some ⟨g, off, none⟩) l c] w (Ret w (.int .u32 ((b0 + b1 * 256 + b2 * 65536 + b3 * 16777216 : Nat) : Int))) := by
  have i0 : (0 : Int) < (l : Int) := by omega
  have i1 : (1 : Int) < (l : Int) := by omega
  have i2 : (2 : Int) < (l : Int) := by omega
  have i3 : (3 : Int) < (l : Int) := by omega
  have E := Lib.hid (or4 b0 b1 b2 b3 k0 k1 k2 k3)
  go_enter Tryz.func90, Tryz.ntmps90
  go_wp2_with fail
  first | (with_reducible refine wp_region_ext_lit2 ?_ ?_ ?_) | refine wp_region_ext_lit ?_ ?_ ?_
  kernel_rfl
  kernel_rfl
  repeat (go_big_quiet_step (fail))
  refine wpQuiet_nil ?_
  rintro _ ⟨u, rfl⟩
  go_wp2_with fail
  go_ret
  exact Ret.mk (by rw [← E.out]; rfl) (by repeat (first | (with_reducible exact Kp.refl _) | (with_reducible assumption) | (with_reducible apply Kp.ext) | (with_reducible apply Kp.alloc) | (with_reducible apply Kp.drew) | (with_reducible apply Kp.drewN) | (with_reducible refine Kp.setCell ?_ (by first | (dsimp only; omega) | (simp; omega) | (simp; done) | (simp [size_ext_eq]; omega)) _)))

set_option maxRecDepth 20000 in
set_option maxHeartbeats 1000000 in
theorem be32_raw (b0 b1 b2 b3 : Nat) (k0 : b0 < 256) (k1 : b1 < 256) (k2 : b2 < 256) (k3 : b3 < 256) (g off l c : Nat) (hl : 4 ≤ l) (w : World)
    (c3 : w.cell? ⟨g, off, none⟩ = some (.int .u8 (b3 : Int))) (c2 : w.cell? ⟨g, off + 1, none⟩ = some (.int .u8 (b2 : Int))) (c1 : w.cell? ⟨g, off + 2, none⟩ = some (.int .u8 (b1 : Int))) (c0 : w.cell? ⟨g, off + 3, none⟩ = some (.int .u8 (b0 : Int))) (hg : g < w.heap.size) :
    Calls Tryz.prog 91 #[.slice (some ⟨g, off, none⟩) l c] w (Ret w (.int .u32 ((b0 + b1 * 256 + b2 * 65536 + b3 * 16777216 : Nat) : Int))) := by
  have i0 : (0 : Int) < (l : Int) := by omega
  have i1 : (1 : Int) < (l : Int) := by omega
  have i2 : (2 : Int) < (l : Int) := by omega
  have i3 : (3 : Int) < (l : Int) := by omega
  have E := Lib.hid (or4 b0 b1 b2 b3 k0 k1 k2 k3)
  go_enter Tryz.func91, Tryz.ntmps91
  go_wp2_with fail
  first | (with_reducible refine wp_region_ext_lit2 ?_ ?_ ?_) | refine wp_region_ext_lit ?_ ?_ ?_
  kernel_rfl
  kernel_rfl
  repeat (go_big_quiet_step (fail))
  refine wpQuiet_nil ?_
  rintro _ ⟨u, rfl⟩
  go_wp2_with fail
  go_ret
  exact Ret.mk (by rw [← E.out]; rfl) (by repeat (first | (with_reducible exact Kp.refl _) | (with_reducible assumption) | (with_reducible apply Kp.ext) | (with_reducible apply Kp.alloc) | (with_reducible apply Kp.drew) | (with_reducible apply Kp.drewN) | (with_reducible refine Kp.setCell ?_ (by first | (dsimp only; omega) | (simp; omega) | (simp; done) | (simp [size_ext_eq]; omega)) _)))

theorem le32_c (n : Nat) (hn : n < 4294967296) (g off l c : Nat) (hl : 4 ≤ l) (w : World) (hg : g < w.heap.size) (h : BytesAt w g off (num32 n false)) :
    Calls Tryz.prog 90 #[.slice (some ⟨g, off, none⟩) l c] w (Ret w (.int .u32 (n : Int))) := by
  have h : BytesAt w g off [n % 256, n / 256 % 256, n / 65536 % 256, n / 16777216] := h
  have e := le32_raw (n % 256) (n / 256 % 256) (n / 65536 % 256) (n / 16777216) (by omega) (by omega) (by omega) (by omega) g off l c hl w h.b0 h.tl.b0 h.tl.tl.b0 h.tl.tl.tl.b0 hg
  rwa [show n % 256 + n / 256 % 256 * 256 + n / 65536 % 256 * 65536 + n / 16777216 * 16777216 = n by omega] at e
theorem be32_c (n : Nat) (hn : n < 4294967296) (g off l c : Nat) (hl : 4 ≤ l) (w : World) (hg : g < w.heap.size) (h : BytesAt w g off (num32 n true)) :
    Calls Tryz.prog 91 #[.slice (some ⟨g, off, none⟩) l c] w (Ret w (.int .u32 (n : Int))) := by
  have h : BytesAt w g off [n / 16777216, n / 65536 % 256, n / 256 % 256, n % 256] := h
  have e := be32_raw (n % 256) (n / 256 % 256) (n / 65536 % 256) (n / 16777216) (by omega) (by omega) (by omega) (by omega) g off l c hl w h.b0 h.tl.b0 h.tl.tl.b0 h.tl.tl.tl.b0 hg
  rwa [show n % 256 + n / 256 % 256 * 256 + n / 65536 % 256 * 65536 + n / 16777216 * 16777216 = n by omega] at e

def ordI (big : Bool) : Int := if big then 0 else 1
set_option maxRecDepth 20000 in
set_option maxHeartbeats 1000000 in
theorem un32_c (n : Nat) (hn : n < 4294967296) (big : Bool) (g off l c : Nat) (hl : 4 ≤ l) (w : World) (hg : g < w.heap.size) (h : BytesAt w g off (num32 n big)) :
    Calls Tryz.prog 84 #[.int .i64 (ordI big), .slice (some ⟨g, off, none⟩) l c] w (Ret w (.int .u32 (n : Int))) := by
  cases big
  · have H := Lib.hid (le32_c n hn g off l c hl w hg h)
    clear h
    show Calls Tryz.prog 84 #[.int .i64 1, .slice (some ⟨g, off, none⟩) l c] w _
    go_enter Tryz.func84, Tryz.ntmps84
    go_wp2_with (go_at_call 90; (first | (with_reducible refine (Ret.at_ext (H.out)).mono ?_) | (with_reducible refine (H.out).mono ?_)); rintro e w' ⟨rfl, u, rfl⟩)
    go_ret
    exact Ret.mk rfl (by repeat (first | (with_reducible exact Kp.refl _) | (with_reducible assumption) | (with_reducible apply Kp.ext) | (with_reducible apply Kp.alloc) | (with_reducible apply Kp.drew) | (with_reducible apply Kp.drewN) | (with_reducible refine Kp.setCell ?_ (by first | (dsimp only; omega) | (simp; omega) | (simp; done) | (simp [size_ext_eq]; omega)) _)))
  · have H := Lib.hid (be32_c n hn g off l c hl w hg h)
    clear h
    show Calls Tryz.prog 84 #[.int .i64 0, .slice (some ⟨g, off, none⟩) l c] w _
    go_enter Tryz.func84, Tryz.ntmps84
    go_wp2_with (go_at_call 91; (first | (with_reducible refine (Ret.at_ext (H.out)).mono ?_) | (with_reducible refine (H.out).mono ?_)); rintro e w' ⟨rfl, u, rfl⟩)
    go_ret
    exact Ret.mk rfl (by repeat (first | (with_reducible exact Kp.refl _) | (with_reducible assumption) | (with_reducible apply Kp.ext) | (with_reducible apply Kp.alloc) | (with_reducible apply Kp.drew) | (with_reducible apply Kp.drewN) | (with_reducible refine Kp.setCell ?_ (by first | (dsimp only; omega) | (simp; omega) | (simp; done) | (simp [size_ext_eq]; omega)) _)))

theorem BytesAt.front {w : World} {g off : Nat} {as' bs : List Nat} (h : BytesAt w g off (as' ++ bs)) : BytesAt w g off as' := fun i hi => by
  have := h i (by rw [List.length_append]; omega)
  rw [List.getElem_append_left hi] at this
  exact this
theorem BytesAt.back {w : World} {g off : Nat} {as' bs : List Nat} (h : BytesAt w g off (as' ++ bs)) : BytesAt w g (off + as'.length) bs := fun i hi => by
  have := h (as'.length + i) (by rw [List.length_append]; omega)
  rw [List.getElem_append_right (by omega)] at this
  simp only [Nat.add_sub_cancel_left] at this
  rw [show off + as'.length + i = off + (as'.length + i) by omega]
  exact this

set_option maxRecDepth 20000 in
set_option maxHeartbeats 1000000 in
theorem le64_c (n : Nat) (hn : n < 2 ^ 64) (g off l c : Nat) (hl : 8 ≤ l) (hlc : l ≤ c) (w : World) (hg : g < w.heap.size) (h : BytesAt w g off (num64 n false)) :
    Calls Tryz.prog 80 #[.slice (some ⟨g, off, none⟩) l c] w (Ret w (.int .u64 (n : Int))) := by
  have h : BytesAt w g off (num32 (n % 4294967296) false ++ num32 (n / 4294967296) false) := h
  have hb := h.back
  rw [num32_length] at hb
  have c7 : ∃ x : Int, w.cell? ⟨g, off + 7, none⟩ = some (.int .u8 x) := ⟨_, by
    have := h 7 (by simp [num32_length])
    exact this⟩
  obtain ⟨x7, c7⟩ := c7
  have HA := Lib.hid (fun w' (k : Kp w w') => le32_c (n % 4294967296) (by omega) g off l c (by omega) w' (Nat.lt_of_lt_of_le hg k.size) (h.front.kp hg k))
  have HB := Lib.hid (fun w' (k : Kp w w') => le32_c (n / 4294967296) (by omega) g (off + 4) (l - 4) (c - 4) (by omega) w' (Nat.lt_of_lt_of_le hg k.size) (hb.kp hg k))
  have e : bits BinOp.or IntKind.u64 ((n % 4294967296 : Nat) : Int) (((n / 4294967296 : Nat) : Int) * 4294967296) = (n : Int) := by
    rw [show (((n / 4294967296 : Nat) : Int) * 4294967296) = ((n / 4294967296 * 4294967296 : Nat) : Int) by omega, or64_join 32 _ _ (by omega) (by omega) (by omega) (by omega)]
    omega
  have i4 : (4 : Int) ≤ (l : Int) := by omega
  have i7 : (7 : Int) < (l : Int) := by omega
  have i6 : (4 = c) = False := eq_false (by omega)
  have i8 : (c = 4) = False := eq_false (by omega)
  have k1 : n % 4294967296 < 4294967296 := by omega
  have k2 : n / 4294967296 < 4294967296 := by omega
  generalize n % 4294967296 = lo at *
  generalize n / 4294967296 = hi at *
  have E := Lib.hid e
  clear h hb e
  go_enter Tryz.func80, Tryz.ntmps80
  go_wp2_with fail
  first | (with_reducible refine wp_region_ext_lit2 ?_ ?_ ?_) | refine wp_region_ext_lit ?_ ?_ ?_
  kernel_rfl
  kernel_rfl
  repeat (go_big_quiet_step (first | (go_at_call 90; with_reducible exact Ret.quiet (HA.out _ (by repeat (first | (with_reducible exact Kp.refl _) | (with_reducible assumption) | (with_reducible apply Kp.ext) | (with_reducible apply Kp.alloc) | (with_reducible apply Kp.drew) | (with_reducible apply Kp.drewN) | (with_reducible refine Kp.setCell ?_ (by first | (dsimp only; omega) | (simp; omega) | (simp; done) | (simp [size_ext_eq]; omega)) _))))) | (go_at_call 90; with_reducible exact Ret.quiet (HB.out _ (by repeat (first | (with_reducible exact Kp.refl _) | (with_reducible assumption) | (with_reducible apply Kp.ext) | (with_reducible apply Kp.alloc) | (with_reducible apply Kp.drew) | (with_reducible apply Kp.drewN) | (with_reducible refine Kp.setCell ?_ (by first | (dsimp only; omega) | (simp; omega) | (simp; done) | (simp [size_ext_eq]; omega)) _)))))))
  refine wpQuiet_nil ?_
  rintro _ ⟨u, rfl⟩
  go_wp2_with fail
  go_ret
  exact Ret.mk (by rw [← E.out]; rfl) (by repeat (first | (with_reducible exact Kp.refl _) | (with_reducible assumption) | (with_reducible apply Kp.ext) | (with_reducible apply Kp.alloc) | (with_reducible apply Kp.drew) | (with_reducible apply Kp.drewN) | (with_reducible refine Kp.setCell ?_ (by first | (dsimp only; omega) | (simp; omega) | (simp; done) | (simp [size_ext_eq]; omega)) _)))

set_option maxRecDepth 20000 in
set_option maxHeartbeats 1000000 in
theorem be64_c (n : Nat) (hn : n < 2 ^ 64) (g off l c : Nat) (hl : 8 ≤ l) (hlc : l ≤ c) (w : World) (hg : g < w.heap.size) (h : BytesAt w g off (num64 n true)) :
    Calls Tryz.prog 81 #[.slice (some ⟨g, off, none⟩) l c] w (Ret w (.int .u64 (n : Int))) := by
  have h : BytesAt w g off (num32 (n / 4294967296) true ++ num32 (n % 4294967296) true) := h
  have hb := h.back
  rw [num32_length] at hb
  have c7 : ∃ x : Int, w.cell? ⟨g, off + 7, none⟩ = some (.int .u8 x) := ⟨_, by
    have := h 7 (by simp [num32_length])
    exact this⟩
  obtain ⟨x7, c7⟩ := c7
  have HA := Lib.hid (fun w' (k : Kp w w') => be32_c (n / 4294967296) (by omega) g off l c (by omega) w' (Nat.lt_of_lt_of_le hg k.size) (h.front.kp hg k))
  have HB := Lib.hid (fun w' (k : Kp w w') => be32_c (n % 4294967296) (by omega) g (off + 4) (l - 4) (c - 4) (by omega) w' (Nat.lt_of_lt_of_le hg k.size) (hb.kp hg k))
  have e : bits BinOp.or IntKind.u64 (((n / 4294967296 : Nat) : Int) * 4294967296) ((n % 4294967296 : Nat) : Int) = (n : Int) := by
    rw [show (((n / 4294967296 : Nat) : Int) * 4294967296) = ((n / 4294967296 * 4294967296 : Nat) : Int) by omega, or64_join' 32 _ _ (by omega) (by omega) (by omega) (by omega)]
    omega
  have i4 : (4 : Int) ≤ (l : Int) := by omega
  have i7 : (7 : Int) < (l : Int) := by omega
  have i6 : (4 = c) = False := eq_false (by omega)
  have i8 : (c = 4) = False := eq_false (by omega)
  have k1 : n % 4294967296 < 4294967296 := by omega
  have k2 : n / 4294967296 < 4294967296 := by omega
  generalize n % 4294967296 = lo at *
  generalize n / 4294967296 = hi at *
  have E := Lib.hid e
  clear h hb e
  go_enter Tryz.func81, Tryz.ntmps81
  go_wp2_with fail
  first | (with_reducible refine wp_region_ext_lit2 ?_ ?_ ?_) | refine wp_region_ext_lit ?_ ?_ ?_
  kernel_rfl
  kernel_rfl
  repeat (go_big_quiet_step (first | (go_at_call 91; with_reducible exact Ret.quiet (HA.out _ (by repeat (first | (with_reducible exact Kp.refl _) | (with_reducible assumption) | (with_reducible apply Kp.ext) | (with_reducible apply Kp.alloc) | (with_reducible apply Kp.drew) | (with_reducible apply Kp.drewN) | (with_reducible refine Kp.setCell ?_ (by first | (dsimp only; omega) | (simp; omega) | (simp; done) | (simp [size_ext_eq]; omega)) _))))) | (go_at_call 91; with_reducible exact Ret.quiet (HB.out _ (by repeat (first | (with_reducible exact Kp.refl _) | (with_reducible assumption) | (with_reducible apply Kp.ext) | (with_reducible apply Kp.alloc) | (with_reducible apply Kp.drew) | (with_reducible apply Kp.drewN) | (with_reducible refine Kp.setCell ?_ (by first | (dsimp only; omega) | (simp; omega) | (simp; done) | (simp [size_ext_eq]; omega)) _)))))))
  refine wpQuiet_nil ?_
  rintro _ ⟨u, rfl⟩
  go_wp2_with fail
  go_ret
  exact Ret.mk (by rw [← E.out]; rfl) (by repeat (first | (with_reducible exact Kp.refl _) | (with_reducible assumption) | (with_reducible apply Kp.ext) | (with_reducible apply Kp.alloc) | (with_reducible apply Kp.drew) | (with_reducible apply Kp.drewN) | (with_reducible refine Kp.setCell ?_ (by first | (dsimp only; omega) | (simp; omega) | (simp; done) | (simp [size_ext_eq]; omega)) _)))
end Go.Proofs.YtobdohhabgnjiaaGreatDoor

set_option linter.all false
namespace Go.Proofs.YtobdohhabgnjiaaGreatDoor
open PubFl Go.RowKit

attribute [local go_sem] cell_ext frozen_ext ext_setCell cell_store size_ext_eq lt_p0 lt_p1 lt_p2 lt_p3 lt_p4 lt_p5 lt_p6 lt_p7 lt_p8 lt_p9 lt_p10 lt_p11 lt_p12 lt_p13 lt_p14 lt_p15 lt_p16 lt_p17 lt_p18 lt_p19 lt_p20 lt_p21 lt_p22 lt_p23 lt_p24 lt_p25 lt_p26 lt_p27 lt_p28 lt_p29 lt_p30 lt_p31 lt_p32 lt_q1 lt_q2 lt_q3 lt_q4 lt_q5 lt_q6 lt_q7 lt_q8 lt_q9 lt_q10 lt_q11 lt_q12 lt_q13 lt_q14 lt_q15 lt_q16 lt_q17 lt_q18 lt_q19 lt_q20 lt_q21 lt_q22 lt_q23 lt_q24 lt_q25 lt_q26 lt_q27 lt_q28 lt_q29 lt_q30 lt_q31 lt_q32 run_fop run_store_float
attribute [local go_sem high] cmp_eql cmp_neq cmp_lss cmp_leq cmp_gtr cmp_geq

/-- the address of an error in memory -/
def ErrA (w : World) (a : Addr) : Prop := a.block < w.heap.size ∧ ∃ c t, w.heap[a.block]? = some (.cells c t (0, 0))
theorem ErrA.kp {w w' : World} {a : Addr} (h : ErrA w a) (k : Kp w w') : ErrA w' a := ⟨Nat.lt_of_lt_of_le h.1 k.size, by
  obtain ⟨c, t, hc⟩ := h.2
  exact ⟨c, t, (k.block _ h.1).trans hc⟩⟩
/-- a variable that holds an error -/
def GlE (w : World) (g : Nat) : Prop := g < w.heap.size ∧ ∃ a : Addr, w.cell? ⟨g, 0, none⟩ = some (.iface 191 (.pointer (some a))) ∧ ErrA w a
theorem GlE.kp {w w' : World} {g : Nat} (h : GlE w g) (k : Kp w w') : GlE w' g := ⟨Nat.lt_of_lt_of_le h.1 k.size, by
  obtain ⟨a, ha, he⟩ := h.2
  exact ⟨a, Kp.cell k ha h.1, he.kp k⟩⟩
def errV (a : Addr) : Value := .iface 191 (.pointer (some a))
/-- what a call hands back that ends in an error -/
def RetErr (w : World) (f : Value → Value) (e : Ending) (w' : World) : Prop := ∃ a : Addr, ErrA w' a ∧ Ret w (f (.iface 191 (.pointer (some a)))) e w'
set_option maxRecDepth 20000 in
set_option maxHeartbeats 1000000 in
theorem bot_short (p : Option Addr) (n c : Nat) (hn : n < 6) (w : World) (hG : GlE w 3) :
    Calls Tryz.prog 83 #[.slice p n c] w (RetErr w fun v => .tuple #[.int .i64 0, .int .u32 0, v]) := by
  obtain ⟨hlt, a, ha, hea⟩ := hG; have HE := Lib.hid hea; clear hea
  have i1 : ((n : Int) < 6) := by omega
  go_enter Tryz.func83, Tryz.ntmps83
  go_wp2_with fail
  first | (with_reducible refine wp_region_ext_lit2 ?_ ?_ ?_) | refine wp_region_ext_lit ?_ ?_ ?_
  kernel_rfl
  kernel_rfl
  repeat (go_big_quiet_step (fail))
  refine wpQuiet_nil ?_
  rintro _ ⟨u, rfl⟩
  go_wp2_with fail
  refine bodyPost_ret (v := .tuple #[.int .i64 0, .int .u32 0, .iface 191 (.pointer (some a))]) (by simp [results, Tryz.results83, go_sem]) rfl ?_
  exact ⟨a, HE.out.kp (by repeat (first | (with_reducible exact Kp.refl _) | (with_reducible assumption) | (with_reducible apply Kp.ext) | (with_reducible apply Kp.alloc) | (with_reducible apply Kp.drew) | (with_reducible apply Kp.drewN) | (with_reducible refine Kp.setCell ?_ (by first | (dsimp only; omega) | (simp; omega) | (simp; done) | (simp [size_ext_eq]; omega)) _))), Ret.mk rfl (by repeat (first | (with_reducible exact Kp.refl _) | (with_reducible assumption) | (with_reducible apply Kp.ext) | (with_reducible apply Kp.alloc) | (with_reducible apply Kp.drew) | (with_reducible apply Kp.drewN) | (with_reducible refine Kp.setCell ?_ (by first | (dsimp only; omega) | (simp; omega) | (simp; done) | (simp [size_ext_eq]; omega)) _)))⟩

set_option maxRecDepth 20000 in
set_option maxHeartbeats 1000000 in
theorem bot_c (k : Nat) (hk : k < 4294967296) (big : Bool) (g off n c : Nat) (hn : 6 ≤ n) (hnc : n ≤ c) (w : World) (hg : g < w.heap.size) (h0 : w.cell? ⟨g, off, none⟩ = some (.int .u8 (ordI big))) (h : BytesAt w g (off + 1) (num32 k big)) :
    Calls Tryz.prog 83 #[.slice (some ⟨g, off, none⟩) n c] w (Ret w (.tuple #[.int .i64 (ordI big), .int .u32 (k : Int), .nilIface])) := by
  have HU := Lib.hid (fun w' (k' : Kp w w') => un32_c k hk big g (off + 1) (n - 1) (c - 1) (by omega) w' (Nat.lt_of_lt_of_le hg k'.size) (h.kp hg k'))
  have i1 : ((n : Int) < 6) = False := eq_false (by omega)
  have i0 : (0 : Int) < (n : Int) := by omega
  have i4 : (1 : Int) ≤ (n : Int) := by omega
  have i6 : (1 = c) = False := eq_false (by omega)
  have i8 : (c = 1) = False := eq_false (by omega)
  cases big
  · have h0 : w.cell? ⟨g, off, none⟩ = some (.int .u8 1) := h0
    change Hid (∀ w', Kp w w' → Calls Tryz.prog _ #[.int .i64 1, _] _ _) at HU
    show Calls Tryz.prog 83 #[.slice (some ⟨g, off, none⟩) n c] w (Ret w (.tuple #[.int .i64 1, .int .u32 (k : Int), .nilIface]))
    clear h
    go_enter Tryz.func83, Tryz.ntmps83
    go_wp2_with (go_at_call 84; (first | (with_reducible refine (Ret.at_ext (HU.out _ (by repeat (first | (with_reducible exact Kp.refl _) | (with_reducible assumption) | (with_reducible apply Kp.ext) | (with_reducible apply Kp.alloc) | (with_reducible apply Kp.drew) | (with_reducible apply Kp.drewN) | (with_reducible refine Kp.setCell ?_ (by first | (dsimp only; omega) | (simp; omega) | (simp; done) | (simp [size_ext_eq]; omega)) _))))).mono ?_) | (with_reducible refine (HU.out _ (by repeat (first | (with_reducible exact Kp.refl _) | (with_reducible assumption) | (with_reducible apply Kp.ext) | (with_reducible apply Kp.alloc) | (with_reducible apply Kp.drew) | (with_reducible apply Kp.drewN) | (with_reducible refine Kp.setCell ?_ (by first | (dsimp only; omega) | (simp; omega) | (simp; done) | (simp [size_ext_eq]; omega)) _)))).mono ?_)); rintro e w' ⟨rfl, u, rfl⟩)
    exact bodyPost_ret (v := .tuple #[.int .i64 1, .int .u32 (k : Int), .nilIface]) (by simp [results, Tryz.results83, go_sem]) rfl (Ret.mk rfl (by repeat (first | (with_reducible exact Kp.refl _) | (with_reducible assumption) | (with_reducible apply Kp.ext) | (with_reducible apply Kp.alloc) | (with_reducible apply Kp.drew) | (with_reducible apply Kp.drewN) | (with_reducible refine Kp.setCell ?_ (by first | (dsimp only; omega) | (simp; omega) | (simp; done) | (simp [size_ext_eq]; omega)) _))))
  · have h0 : w.cell? ⟨g, off, none⟩ = some (.int .u8 0) := h0
    change Hid (∀ w', Kp w w' → Calls Tryz.prog _ #[.int .i64 0, _] _ _) at HU
    show Calls Tryz.prog 83 #[.slice (some ⟨g, off, none⟩) n c] w (Ret w (.tuple #[.int .i64 0, .int .u32 (k : Int), .nilIface]))
    clear h
    go_enter Tryz.func83, Tryz.ntmps83
    go_wp2_with (go_at_call 84; (first | (with_reducible refine (Ret.at_ext (HU.out _ (by repeat (first | (with_reducible exact Kp.refl _) | (with_reducible assumption) | (with_reducible apply Kp.ext) | (with_reducible apply Kp.alloc) | (with_reducible apply Kp.drew) | (with_reducible apply Kp.drewN) | (with_reducible refine Kp.setCell ?_ (by first | (dsimp only; omega) | (simp; omega) | (simp; done) | (simp [size_ext_eq]; omega)) _))))).mono ?_) | (with_reducible refine (HU.out _ (by repeat (first | (with_reducible exact Kp.refl _) | (with_reducible assumption) | (with_reducible apply Kp.ext) | (with_reducible apply Kp.alloc) | (with_reducible apply Kp.drew) | (with_reducible apply Kp.drewN) | (with_reducible refine Kp.setCell ?_ (by first | (dsimp only; omega) | (simp; omega) | (simp; done) | (simp [size_ext_eq]; omega)) _)))).mono ?_)); rintro e w' ⟨rfl, u, rfl⟩)
    exact bodyPost_ret (v := .tuple #[.int .i64 0, .int .u32 (k : Int), .nilIface]) (by simp [results, Tryz.results83, go_sem]) rfl (Ret.mk rfl (by repeat (first | (with_reducible exact Kp.refl _) | (with_reducible assumption) | (with_reducible apply Kp.ext) | (with_reducible apply Kp.alloc) | (with_reducible apply Kp.drew) | (with_reducible apply Kp.drewN) | (with_reducible refine Kp.setCell ?_ (by first | (dsimp only; omega) | (simp; omega) | (simp; done) | (simp [size_ext_eq]; omega)) _))))

theorem and_kind (k : Nat) (h : k < 16) : bits BinOp.and IntKind.u32 (k : Int) 15 = (k : Int) ∧ bits BinOp.and IntKind.u32 (k : Int) 536870912 = 0 := by
  have h' : ∀ k : Fin 16, bits BinOp.and IntKind.u32 (k.val : Int) 15 = (k.val : Int) ∧ bits BinOp.and IntKind.u32 (k.val : Int) 536870912 = 0 := by decide +kernel
  exact h' ⟨k, h⟩
theorem and_kindS (k : Nat) (h : k < 16) : bits BinOp.and IntKind.u32 ((k + 536870912 : Nat) : Int) 15 = (k : Int) ∧ bits BinOp.and IntKind.u32 ((k + 536870912 : Nat) : Int) 536870912 = 536870912 := by
  have h' : ∀ k : Fin 16, bits BinOp.and IntKind.u32 ((k.val + 536870912 : Nat) : Int) 15 = (k.val : Int) ∧ bits BinOp.and IntKind.u32 ((k.val + 536870912 : Nat) : Int) 536870912 = 536870912 := by decide +kernel
  exact h' ⟨k, h⟩

/-- unmarshalByteOrderType, where byteOrderType fails -/
theorem ubot_err (v : Value) (w : World) (h : Calls Tryz.prog 83 #[v] w (RetErr w fun v => .tuple #[.int .i64 0, .int .u32 0, v])) :
    Calls Tryz.prog 66 #[v] w (RetErr w fun v => .tuple #[.int .i64 0, .int .u32 0, .int .i64 0, .slice none 0 0, v]) := by
  have H := Lib.hid h
  clear h
  go_enter Tryz.func66, Tryz.ntmps66
  go_wp2_with (go_at_call 83; (with_reducible refine (H.out).mono ?_); rintro e w' ⟨a, hea, rfl, u, rfl⟩; have HE := Lib.hid hea; clear hea)
  refine bodyPost_ret (v := .tuple #[.int .i64 0, .int .u32 0, .int .i64 0, .slice none 0 0, .iface 191 (.pointer (some a))]) (by simp [results, Tryz.results66, go_sem]) rfl ?_
  exact ⟨a, HE.out.kp (by repeat (first | (with_reducible exact Kp.refl _) | (with_reducible assumption) | (with_reducible apply Kp.ext) | (with_reducible apply Kp.alloc) | (with_reducible apply Kp.drew) | (with_reducible apply Kp.drewN) | (with_reducible refine Kp.setCell ?_ (by first | (dsimp only; omega) | (simp; omega) | (simp; done) | (simp [size_ext_eq]; omega)) _))), Ret.mk rfl (by repeat (first | (with_reducible exact Kp.refl _) | (with_reducible assumption) | (with_reducible apply Kp.ext) | (with_reducible apply Kp.alloc) | (with_reducible apply Kp.drew) | (with_reducible apply Kp.drewN) | (with_reducible refine Kp.setCell ?_ (by first | (dsimp only; omega) | (simp; omega) | (simp; done) | (simp [size_ext_eq]; omega)) _)))⟩

set_option maxRecDepth 20000 in
set_option maxHeartbeats 1000000 in
theorem ubot0_c (k : Nat) (hk : k < 16) (big : Bool) (g off n c : Nat) (hn : 6 ≤ n) (hnc : n ≤ c) (w : World) (hg : g < w.heap.size) (h0 : w.cell? ⟨g, off, none⟩ = some (.int .u8 (ordI big))) (h : BytesAt w g (off + 1) (num32 k big)) :
    Calls Tryz.prog 66 #[.slice (some ⟨g, off, none⟩) n c] w (Ret w (.tuple #[.int .i64 (ordI big), .int .u32 (k : Int), .int .i64 0, .slice (some ⟨g, off + 5, none⟩) (n - 5) (c - 5), .nilIface])) := by
  have HU := Lib.hid (bot_c k (by omega) big g off n c hn hnc w hg h0 h)
  obtain ⟨e1, e2⟩ := and_kind k hk
  have i4 : (5 : Int) ≤ (n : Int) := by omega
  have i6 : (5 = c) = False := eq_false (by omega)
  have i8 : (c = 5) = False := eq_false (by omega)
  generalize ordI big = o at *
  clear h h0
  go_enter Tryz.func66, Tryz.ntmps66
  go_wp2_with (go_at_call 83; (first | (with_reducible refine (Ret.at_ext (HU.out)).mono ?_) | (with_reducible refine (HU.out).mono ?_)); rintro e w' ⟨rfl, u, rfl⟩)
  first | (with_reducible refine wp_region_ext_lit2 ?_ ?_ ?_) | refine wp_region_ext_lit ?_ ?_ ?_
  kernel_rfl
  kernel_rfl
  repeat (go_big_quiet_step (fail))
  refine wpQuiet_nil ?_
  rintro _ ⟨u, rfl⟩
  go_wp2_with fail
  exact bodyPost_ret (v := .tuple #[.int .i64 o, .int .u32 (k : Int), .int .i64 0, .slice (some ⟨g, off + 5, none⟩) (n - 5) (c - 5), .nilIface]) (by simp [results, Tryz.results66, go_sem]) rfl (Ret.mk rfl (by repeat (first | (with_reducible exact Kp.refl _) | (with_reducible assumption) | (with_reducible apply Kp.ext) | (with_reducible apply Kp.alloc) | (with_reducible apply Kp.drew) | (with_reducible apply Kp.drewN) | (with_reducible refine Kp.setCell ?_ (by first | (dsimp only; omega) | (simp; omega) | (simp; done) | (simp [size_ext_eq]; omega)) _))))

end Go.Proofs.YtobdohhabgnjiaaGreatDoor

set_option linter.all false
namespace Go.Proofs.YtobdohhabgnjiaaGreatDoor
open PubFl Go.RowKit

attribute [local go_sem] cell_ext frozen_ext ext_setCell cell_store size_ext_eq lt_p0 lt_p1 lt_p2 lt_p3 lt_p4 lt_p5 lt_p6 lt_p7 lt_p8 lt_p9 lt_p10 lt_p11 lt_p12 lt_p13 lt_p14 lt_p15 lt_p16 lt_p17 lt_p18 lt_p19 lt_p20 lt_p21 lt_p22 lt_p23 lt_p24 lt_p25 lt_p26 lt_p27 lt_p28 lt_p29 lt_p30 lt_p31 lt_p32 lt_q1 lt_q2 lt_q3 lt_q4 lt_q5 lt_q6 lt_q7 lt_q8 lt_q9 lt_q10 lt_q11 lt_q12 lt_q13 lt_q14 lt_q15 lt_q16 lt_q17 lt_q18 lt_q19 lt_q20 lt_q21 lt_q22 lt_q23 lt_q24 lt_q25 lt_q26 lt_q27 lt_q28 lt_q29 lt_q30 lt_q31 lt_q32 run_fop run_store_float
attribute [local go_sem high] cmp_eql cmp_neq cmp_lss cmp_leq cmp_gtr cmp_geq
attribute [local go_sem] x_bits x_frombits

/-- bytes at an address, where there are any -/
def BytesO (w : World) (a : Option Addr) (bs : List Nat) : Prop := bs = [] ∨ ∃ g off, a = some ⟨g, off, none⟩ ∧ g < w.heap.size ∧ BytesAt w g off bs
theorem BytesO.kp {w w' : World} {a : Option Addr} {bs : List Nat} (h : BytesO w a bs) (k : Kp w w') : BytesO w' a bs := h.imp id fun ⟨g, off, h1, h2, h3⟩ => ⟨g, off, h1, Nat.lt_of_lt_of_le h2 k.size, h3.kp h2 k⟩
theorem BytesO.at {w : World} {a : Option Addr} {bs : List Nat} (h : BytesO w a bs) (hn : 0 < bs.length) : ∃ g off, a = some ⟨g, off, none⟩ ∧ g < w.heap.size ∧ BytesAt w g off bs := by
  rcases h with rfl | h
  · simp at hn
  · exact h
/-- .. sliced -/
theorem BytesO.sl {w : World} {g off c k : Nat} {as' bs : List Nat} (h : BytesAt w g off (as' ++ bs)) (hk : k = as'.length) (hg : g < w.heap.size) (hc : (as' ++ bs).length ≤ c) : BytesO w (if c = k then some ⟨g, off, none⟩ else some ⟨g, off + k, none⟩) bs := by
  subst hk
  by_cases e : c = as'.length
  · left
    rw [List.length_append] at hc
    exact List.eq_nil_of_length_eq_zero (by omega)
  · rw [if_neg e]
    exact .inr ⟨g, _, rfl, hg, h.back⟩

/-- a form, whole and with more behind it, or cut off -/
def PreB (b : Bool) (F r bs : List Nat) : Prop := (b = true ∧ bs = F ++ r) ∨ (b = false ∧ ∃ t, t ≠ [] ∧ F = bs ++ t)
theorem PreB.whole {F r bs : List Nat} (h : PreB true F r bs) : bs = F ++ r := by
  rcases h with h | ⟨h, _⟩
  · exact h.2
  · cases h
theorem PreB.of (F r : List Nat) : PreB true F r (F ++ r) := .inl ⟨rfl, rfl⟩
theorem PreB.cut {F bs t : List Nat} (r : List Nat) (ht : t ≠ []) (h : F = bs ++ t) : PreB false F r bs := .inr ⟨rfl, t, ht, h⟩
theorem PreB.step {b : Bool} {F1 F2 r bs : List Nat} (h : PreB b (F1 ++ F2) r bs) : (∃ r2, bs = F1 ++ r2 ∧ PreB b F2 r r2) ∨ (b = false ∧ PreB false F1 [] bs ∧ bs.length < F1.length) := by
  rcases h with ⟨rfl, rfl⟩ | ⟨rfl, t, ht, h⟩
  · exact .inl ⟨F2 ++ r, by rw [List.append_assoc], .of _ _⟩
  · rcases List.append_eq_append_iff.1 h with ⟨a', h1, h2⟩ | ⟨c', h1, h2⟩
    · exact .inl ⟨a', h1, .cut r ht h2⟩
    · by_cases hc : c' = []
      · subst hc
        rw [List.append_nil] at h1
        rw [List.nil_append] at h2
        refine .inl ⟨[], by rw [List.append_nil, h1], .cut r ht (by rw [List.nil_append, h2])⟩
      · refine .inr ⟨rfl, .cut [] hc h1, ?_⟩
        have : 0 < c'.length := List.length_pos_iff.2 hc
        rw [h1, List.length_append]; omega
theorem PreB.nil {b : Bool} {r bs : List Nat} (h : PreB b [] r bs) : b = true ∧ bs = r := by
  rcases h with ⟨h1, h2⟩ | ⟨_, t, ht, h⟩
  · exact ⟨h1, by simpa using h2⟩
  · exfalso
    have := congrArg List.length h
    have h0 : 0 < t.length := List.length_pos_iff.2 ht
    rw [List.length_append] at this
    simp at this; omega
theorem PreB.len {F r bs : List Nat} (h : PreB false F r bs) : bs.length < F.length := by
  rcases h with ⟨h, _⟩ | ⟨_, t, ht, h⟩
  · cases h
  · have h0 : 0 < t.length := List.length_pos_iff.2 ht
    rw [h, List.length_append]; omega

set_option maxRecDepth 20000 in
set_option maxHeartbeats 1000000 in
theorem unPoint_c (x y : Nat) (hx : x < 2 ^ 64) (hy : y < 2 ^ 64) (big : Bool) (g off n c : Nat) (hn : 16 ≤ n) (hnc : n ≤ c) (w : World) (hg : g < w.heap.size) (h : BytesAt w g off (num64 x big ++ num64 y big)) :
    Calls Tryz.prog 67 #[.int .i64 (ordI big), .slice (some ⟨g, off, none⟩) n c] w (Ret w (.tuple #[.agg #[.float .f64 x, .float .f64 y], .nilIface])) := by
  have hb := h.back
  rw [num64_length] at hb
  have i1 : ((n : Int) < 16) = False := eq_false (by omega)
  have i4 : (8 : Int) ≤ (n : Int) := by omega
  have i6 : (8 = c) = False := eq_false (by omega)
  have i8 : (c = 8) = False := eq_false (by omega)
  cases big
  · have HA := Lib.hid (fun w' (k : Kp w w') => le64_c x hx g off n c (by omega) hnc w' (Nat.lt_of_lt_of_le hg k.size) (h.front.kp hg k))
    have HB := Lib.hid (fun w' (k : Kp w w') => le64_c y hy g (off + 8) (n - 8) (c - 8) (by omega) (by omega) w' (Nat.lt_of_lt_of_le hg k.size) (hb.kp hg k))
    show Calls Tryz.prog 67 #[.int .i64 1, .slice (some ⟨g, off, none⟩) n c] w _
    clear h hb
    go_enter Tryz.func67, Tryz.ntmps67
    go_wp2_with (first | (go_at_call 80; (first | (with_reducible refine (Ret.at_ext (HA.out _ (by repeat (first | (with_reducible exact Kp.refl _) | (with_reducible assumption) | (with_reducible apply Kp.ext) | (with_reducible apply Kp.alloc) | (with_reducible apply Kp.drew) | (with_reducible apply Kp.drewN) | (with_reducible refine Kp.setCell ?_ (by first | (dsimp only; omega) | (simp; omega) | (simp; done) | (simp [size_ext_eq]; omega)) _))))).mono ?_) | (with_reducible refine (HA.out _ (by repeat (first | (with_reducible exact Kp.refl _) | (with_reducible assumption) | (with_reducible apply Kp.ext) | (with_reducible apply Kp.alloc) | (with_reducible apply Kp.drew) | (with_reducible apply Kp.drewN) | (with_reducible refine Kp.setCell ?_ (by first | (dsimp only; omega) | (simp; omega) | (simp; done) | (simp [size_ext_eq]; omega)) _)))).mono ?_)); rintro e w' ⟨rfl, u, rfl⟩) | (go_at_call 80; (first | (with_reducible refine (Ret.at_ext (HB.out _ (by repeat (first | (with_reducible exact Kp.refl _) | (with_reducible assumption) | (with_reducible apply Kp.ext) | (with_reducible apply Kp.alloc) | (with_reducible apply Kp.drew) | (with_reducible apply Kp.drewN) | (with_reducible refine Kp.setCell ?_ (by first | (dsimp only; omega) | (simp; omega) | (simp; done) | (simp [size_ext_eq]; omega)) _))))).mono ?_) | (with_reducible refine (HB.out _ (by repeat (first | (with_reducible exact Kp.refl _) | (with_reducible assumption) | (with_reducible apply Kp.ext) | (with_reducible apply Kp.alloc) | (with_reducible apply Kp.drew) | (with_reducible apply Kp.drewN) | (with_reducible refine Kp.setCell ?_ (by first | (dsimp only; omega) | (simp; omega) | (simp; done) | (simp [size_ext_eq]; omega)) _)))).mono ?_)); rintro e w' ⟨rfl, u, rfl⟩))
    exact bodyPost_ret (v := .tuple #[.agg #[.float .f64 x, .float .f64 y], .nilIface]) (by simp [results, Tryz.results67, go_sem]) rfl (Ret.mk rfl (by repeat (first | (with_reducible exact Kp.refl _) | (with_reducible assumption) | (with_reducible apply Kp.ext) | (with_reducible apply Kp.alloc) | (with_reducible apply Kp.drew) | (with_reducible apply Kp.drewN) | (with_reducible refine Kp.setCell ?_ (by first | (dsimp only; omega) | (simp; omega) | (simp; done) | (simp [size_ext_eq]; omega)) _))))
  · have HA := Lib.hid (fun w' (k : Kp w w') => be64_c x hx g off n c (by omega) hnc w' (Nat.lt_of_lt_of_le hg k.size) (h.front.kp hg k))
    have HB := Lib.hid (fun w' (k : Kp w w') => be64_c y hy g (off + 8) (n - 8) (c - 8) (by omega) (by omega) w' (Nat.lt_of_lt_of_le hg k.size) (hb.kp hg k))
    show Calls Tryz.prog 67 #[.int .i64 0, .slice (some ⟨g, off, none⟩) n c] w _
    clear h hb
    go_enter Tryz.func67, Tryz.ntmps67
    go_wp2_with (first | (go_at_call 81; (first | (with_reducible refine (Ret.at_ext (HA.out _ (by repeat (first | (with_reducible exact Kp.refl _) | (with_reducible assumption) | (with_reducible apply Kp.ext) | (with_reducible apply Kp.alloc) | (with_reducible apply Kp.drew) | (with_reducible apply Kp.drewN) | (with_reducible refine Kp.setCell ?_ (by first | (dsimp only; omega) | (simp; omega) | (simp; done) | (simp [size_ext_eq]; omega)) _))))).mono ?_) | (with_reducible refine (HA.out _ (by repeat (first | (with_reducible exact Kp.refl _) | (with_reducible assumption) | (with_reducible apply Kp.ext) | (with_reducible apply Kp.alloc) | (with_reducible apply Kp.drew) | (with_reducible apply Kp.drewN) | (with_reducible refine Kp.setCell ?_ (by first | (dsimp only; omega) | (simp; omega) | (simp; done) | (simp [size_ext_eq]; omega)) _)))).mono ?_)); rintro e w' ⟨rfl, u, rfl⟩) | (go_at_call 81; (first | (with_reducible refine (Ret.at_ext (HB.out _ (by repeat (first | (with_reducible exact Kp.refl _) | (with_reducible assumption) | (with_reducible apply Kp.ext) | (with_reducible apply Kp.alloc) | (with_reducible apply Kp.drew) | (with_reducible apply Kp.drewN) | (with_reducible refine Kp.setCell ?_ (by first | (dsimp only; omega) | (simp; omega) | (simp; done) | (simp [size_ext_eq]; omega)) _))))).mono ?_) | (with_reducible refine (HB.out _ (by repeat (first | (with_reducible exact Kp.refl _) | (with_reducible assumption) | (with_reducible apply Kp.ext) | (with_reducible apply Kp.alloc) | (with_reducible apply Kp.drew) | (with_reducible apply Kp.drewN) | (with_reducible refine Kp.setCell ?_ (by first | (dsimp only; omega) | (simp; omega) | (simp; done) | (simp [size_ext_eq]; omega)) _)))).mono ?_)); rintro e w' ⟨rfl, u, rfl⟩))
    exact bodyPost_ret (v := .tuple #[.agg #[.float .f64 x, .float .f64 y], .nilIface]) (by simp [results, Tryz.results67, go_sem]) rfl (Ret.mk rfl (by repeat (first | (with_reducible exact Kp.refl _) | (with_reducible assumption) | (with_reducible apply Kp.ext) | (with_reducible apply Kp.alloc) | (with_reducible apply Kp.drew) | (with_reducible apply Kp.drewN) | (with_reducible refine Kp.setCell ?_ (by first | (dsimp only; omega) | (simp; omega) | (simp; done) | (simp [size_ext_eq]; omega)) _))))

set_option maxRecDepth 20000 in
set_option maxHeartbeats 1000000 in
theorem unPoint_short (o : Int) (p : Option Addr) (n c : Nat) (hn : n < 16) (w : World) (hG : GlE w 3) :
    Calls Tryz.prog 67 #[.int .i64 o, .slice p n c] w (RetErr w fun v => .tuple #[.agg #[.float .f64 0, .float .f64 0], v]) := by
  have i1 : ((n : Int) < 16) := by omega
  have hG' := Lib.hid hG
  obtain ⟨hlt, a, ha, hea⟩ := hG; have HE := Lib.hid hea; clear hea
  go_enter Tryz.func67, Tryz.ntmps67
  go_wp2_with fail
  first | (with_reducible refine wp_region_ext_tail2 3 ?_ ?_ ?_) | refine wp_region_ext_tail 3 ?_ ?_ ?_
  kernel_rfl
  kernel_rfl
  simp only [List.take_succ_cons, List.take_zero, List.drop_succ_cons, List.drop_zero]
  repeat (go_big_quiet_step (fail))
  refine wpQuiet_nil ?_
  rintro _ ⟨u, rfl⟩
  go_wp2_with fail
  refine bodyPost_ret (v := .tuple #[.agg #[.float .f64 0, .float .f64 0], .iface 191 (.pointer (some a))]) (by simp [results, Tryz.results67, go_sem]) rfl ?_
  exact ⟨a, HE.out.kp (by repeat (first | (with_reducible exact Kp.refl _) | (with_reducible assumption) | (with_reducible apply Kp.ext) | (with_reducible apply Kp.alloc) | (with_reducible apply Kp.drew) | (with_reducible apply Kp.drewN) | (with_reducible refine Kp.setCell ?_ (by first | (dsimp only; omega) | (simp; omega) | (simp; done) | (simp [size_ext_eq]; omega)) _))), Ret.mk rfl (by repeat (first | (with_reducible exact Kp.refl _) | (with_reducible assumption) | (with_reducible apply Kp.ext) | (with_reducible apply Kp.alloc) | (with_reducible apply Kp.drew) | (with_reducible apply Kp.drewN) | (with_reducible refine Kp.setCell ?_ (by first | (dsimp only; omega) | (simp; omega) | (simp; done) | (simp [size_ext_eq]; omega)) _)))⟩
end Go.Proofs.YtobdohhabgnjiaaGreatDoor

set_option linter.all false
namespace Go.Proofs.YtobdohhabgnjiaaGreatDoor
open PubFl Go.RowKit

attribute [local go_sem] cell_ext frozen_ext ext_setCell cell_store size_ext_eq lt_p0 lt_p1 lt_p2 lt_p3 lt_p4 lt_p5 lt_p6 lt_p7 lt_p8 lt_p9 lt_p10 lt_p11 lt_p12 lt_p13 lt_p14 lt_p15 lt_p16 lt_p17 lt_p18 lt_p19 lt_p20 lt_p21 lt_p22 lt_p23 lt_p24 lt_p25 lt_p26 lt_p27 lt_p28 lt_p29 lt_p30 lt_p31 lt_p32 lt_q1 lt_q2 lt_q3 lt_q4 lt_q5 lt_q6 lt_q7 lt_q8 lt_q9 lt_q10 lt_q11 lt_q12 lt_q13 lt_q14 lt_q15 lt_q16 lt_q17 lt_q18 lt_q19 lt_q20 lt_q21 lt_q22 lt_q23 lt_q24 lt_q25 lt_q26 lt_q27 lt_q28 lt_q29 lt_q30 lt_q31 lt_q32 run_fop run_store_float
attribute [local go_sem high] cmp_eql cmp_neq cmp_lss cmp_leq cmp_gtr cmp_geq
attribute [local go_sem] x_bits x_frombits

theorem ptsForm_at {w : World} {g off : Nat} {big : Bool} : ∀ {ps : List (Nat × Nat)} {r : List Nat}, BytesAt w g off (ptsForm ps big ++ r) → ∀ (i : Nat) (h : i < ps.length), BytesAt w g (off + i * 16) (num64 (ps[i]'h).1 big ++ num64 (ps[i]'h).2 big)
  | [], _, _, i, h => by simp at h
  | p :: ps, r, hb, i, h => by
    have e : ptsForm (p :: ps) big = (num64 p.1 big ++ num64 p.2 big) ++ ptsForm ps big := rfl
    rw [e, List.append_assoc] at hb
    cases i with
    | zero => rw [Nat.zero_mul, Nat.add_zero]; exact hb.front
    | succ i =>
      have h2 := hb.back
      rw [List.length_append, num64_length, num64_length] at h2
      have := ptsForm_at (off := off + (8 + 8)) h2 i (by simpa using h)
      rw [show off + (8 + 8) + i * 16 = off + (i + 1) * 16 by omega] at this
      exact this
/-- a store into a row of the call's own -/
theorem own_set {w : World} {base : Nat} {e : TypeId} {size n g cap : Nat} {xs : List Value} (h : w.ownsRow base e size (.slice (some ⟨g, 0, none⟩) n cap) n xs) (i : Nat) (hi : i < n * size) (x : Value) : (w.setCell ⟨g, i, none⟩ x).ownsRow base e size (.slice (some ⟨g, 0, none⟩) n cap) n (xs.set i x) := by
  obtain ⟨hl, h⟩ := h
  refine ⟨by rw [List.length_set]; exact hl, .inr ?_⟩
  rcases h with ⟨h, _⟩ | ⟨g', cap', cur, hv, hb, hg, h1, h2, h3, h4⟩
  · cases h
  · injection hv with e1 e2 e3
    injection e1 with e1
    injection e1 with e1
    subst e1 e3
    refine ⟨g, cap, cur.setIfInBounds i x, rfl, hb, ?_, h1, h2, by rw [Array.size_setIfInBounds]; exact h3, ?_⟩
    · unfold World.setCell
      simp only [Array.getElem?_modify, if_pos, hg]
      simp
    · rw [Array.toList_setIfInBounds, List.take_set, h4]
theorem set_two (cs : List Value) (k : Nat) (hk : cs.length = k) (a b x y : Value) : ((cs ++ [a, b]).set k x).set (k + 1) y = cs ++ [x, y] := by
  subst hk
  rw [List.set_append_right _ _ (Nat.le_refl _), Nat.sub_self, List.set_append_right _ _ (by omega), show cs.length + 1 - cs.length = 1 by omega]
  rfl
theorem own_two {w : World} {base : Nat} {e : TypeId} {k g cap : Nat} {cs : List Value} {a b : Value} (h : w.ownsRow base e 2 (.slice (some ⟨g, 0, none⟩) (k + 1) cap) (k + 1) (cs ++ [a, b])) (hc : cs.length = k * 2) (x y : Value) : ((w.setCell ⟨g, k * 2, none⟩ x).setCell ⟨g, k * 2 + 1, none⟩ y).ownsRow base e 2 (.slice (some ⟨g, 0, none⟩) (k + 1) cap) (k + 1) (cs ++ [x, y]) := by
  have := own_set (own_set h (k * 2) (by omega) x) (k * 2 + 1) (by omega) y
  rwa [set_two cs (k * 2) hc] at this
theorem own_ptsB {w : World} {L : Nat} {v : Value} {ps : List (Nat × Nat)} {e : TypeId} (h : w.ownsRow L e 2 v ps.length (cellsOf ps)) (hn : ∃ g, v.ownBlock = some g) : PtsB L w.heap.size w v ps := by
  obtain ⟨g0, hg0⟩ := hn
  have h' := h
  rcases h.2 with ⟨rfl, _⟩ | ⟨g, cap, cur, rfl, hb, hg, h1, _⟩
  · cases hg0
  · have hs := (own_size h' (g := g) rfl).2
    refine ⟨g, cap, rfl, hb, hs, hs, h1, fun j => row_frozen hg, fun i hi => ?_⟩
    have e0 := h'.cellAt (i * 2) (by omega)
    have e1 := h'.cellAt (i * 2 + 1) (by omega)
    obtain ⟨c0, c1⟩ := cellsOf_get ps i hi
    rw [Nat.zero_add]
    exact ⟨e0.trans c0, e1.trans c1⟩
/-- what a call hands back that reads points: the points, or an error -/
def RetPts (w : World) (ps : List (Nat × Nat)) (e : Ending) (w' : World) : Prop := ∃ v u, e = .returned (.tuple #[v, .nilIface]) ∧ w' = ext w u ∧ PtsB w.heap.size w'.heap.size w' v ps

set_option maxRecDepth 20000 in
set_option maxHeartbeats 2000000 in
theorem unPts_le (ps : List (Nat × Nat)) (hn : ps.length ≤ 300) (hbits : Bits ps) (g off n c : Nat) (hnn : 4 + ps.length * 16 ≤ n) (hnc : n ≤ c) (hc4 : c ≠ 4) (hm : n ≤ 1000000000000) (w : World) (hg : g < w.heap.size) (h0 : BytesAt w g off (num32 ps.length false)) (h1 : BytesAt w g (off + 4) (ptsForm ps false)) :
    Calls Tryz.prog 86 #[.int .i64 1, .slice (some ⟨g, off, none⟩) n c] w (RetPts w ps) := by
  obtain ⟨i0, hi, hz0, hz1, hz2⟩ := info_parts infoOPt
  have HU := Lib.hid (fun w' (k' : Kp w w') => (show Calls Tryz.prog 84 #[.int .i64 1, _] _ _ from un32_c ps.length (by omega) false g off n c (by omega) w' (Nat.lt_of_lt_of_le hg k'.size) (h0.kp hg k')))
  have hmk : ∀ w, (Instr.makeSlice 89 (.int .i64 0) (.int .u32 (ps.length : Int))).run Tryz.prog w = .ok (.slice (some ⟨w.heap.size, 0, none⟩) 0 ps.length) (w.alloc (.cells (madeCells #[.float .f64 0, .float .f64 0] (ps.length * 2)) 88)) := fun w => by
    have := run_make (P := Tryz.prog) w 89 88 i0 (.agg #[.float .f64 0, .float .f64 0]) Tryz.underlying89 hi hz0 .i64 .u32 0 (ps.length : Int) (by omega) (by omega) (by rw [hz2]; omega) (by omega)
    rw [this, hz1]
    rfl
  have k1 : ((n : Int) < 4) = False := eq_false (by omega)
  have k2 : (4 : Int) ≤ (n : Int) := by omega
  have k3 : (4 = c) = False := eq_false (by omega)
  have k4 : (c = 4) = False := eq_false (by omega)
  have k5 : ((n : Int) - 4 < (ps.length : Int) * 16) = False := eq_false (by omega)
  have k5' : (((n - 4 : Nat) : Int) < (ps.length : Int) * 16) = False := eq_false (by omega)
  have k7 : IntKind.u64.wrap ((n - 4 : Nat) : Int) = ((n - 4 : Nat) : Int) := by rw [IntKind.wrap_u64]; omega
  have k6 : ((10000 : Int) < (ps.length : Int)) = False := eq_false (by omega)
  obtain ⟨N, hN⟩ : ∃ N, ps.length = N := ⟨_, rfl⟩
  rw [hN] at hn hnn HU hmk k5 k5' k6
  have HN := Lib.hid hN
  have H1 := Lib.hid h1
  have Hb := Lib.hid hbits
  have Hnn := Lib.hid hnn
  clear h0 h1 hbits hnn hN
  go_enter Tryz.func86, Tryz.ntmps86
  go_wp2_with (go_at_call 84; (first | (with_reducible refine (Ret.at_ext (HU.out _ (by repeat (first | (with_reducible exact Kp.refl _) | (with_reducible assumption) | (with_reducible apply Kp.ext) | (with_reducible apply Kp.alloc) | (with_reducible apply Kp.drew) | (with_reducible apply Kp.drewN) | (with_reducible refine Kp.setCell ?_ (by first | (dsimp only; omega) | (simp; omega) | (simp; done) | (simp [size_ext_eq]; omega)) _))))).mono ?_) | (with_reducible refine (HU.out _ (by repeat (first | (with_reducible exact Kp.refl _) | (with_reducible assumption) | (with_reducible apply Kp.ext) | (with_reducible apply Kp.alloc) | (with_reducible apply Kp.drew) | (with_reducible apply Kp.drewN) | (with_reducible refine Kp.setCell ?_ (by first | (dsimp only; omega) | (simp; omega) | (simp; done) | (simp [size_ext_eq]; omega)) _)))).mono ?_)); rintro e w' ⟨rfl, u, rfl⟩)
  go_loopw [8, 9] (fun s8 si wr => ∃ k : Nat, k ≤ N ∧ si = .int .i64 k ∧ Kp w wr ∧ wr.ownsRow w.heap.size 88 2 s8 k (cellsOf (ps.take k)) ∧ ∃ g, s8.ownBlock = some g) (fun _ si _ => N - (intOf si).toNat)
  case atStart => exact ⟨0, Nat.zero_le _, rfl, (by repeat (first | (with_reducible exact Kp.refl _) | (with_reducible assumption) | (with_reducible apply Kp.ext) | (with_reducible apply Kp.alloc) | (with_reducible apply Kp.drew) | (with_reducible apply Kp.drewN) | (with_reducible refine Kp.setCell ?_ (by first | (dsimp only; omega) | (simp; omega) | (simp; done) | (simp [size_ext_eq]; omega)) _))), (by
    have h := World.ownsRow_made (base := w.heap.size) (e := 88) (size := 2) (ext w u) (madeCells #[.float .f64 0, .float .f64 0] (N * 2)) N (by rw [size_ext_eq]; omega) (by unfold maxLen; omega) (by simp [size_madeCells])
    rw [size_ext_eq] at h
    exact h), _, rfl⟩
  case round =>
    obtain ⟨k, hkn, rfl, hkp, hown, g0, hg0⟩ := hrel
    by_cases hlt : k < N
    · have hlt' : k < ps.length := by rw [HN.out]; exact hlt
      have hat := ptsForm_at (r := []) (by rw [List.append_nil]; exact H1.out) k hlt'
      have hc1 : cellsOf (ps.take (k + 1)) = cellsOf (ps.take k) ++ [.float .f64 (ps[k]'hlt').1, .float .f64 (ps[k]'hlt').2] := by
        rw [List.take_succ_eq_append_getElem hlt', cellsOf_snoc]
      obtain ⟨b0, b1⟩ := Hb.out k hlt'
      obtain ⟨⟨px, py⟩, hq⟩ : ∃ q, ps[k]'hlt' = q := ⟨_, rfl⟩
      rw [hq] at hat hc1 b0 b1
      simp only at hat hc1 b0 b1
      have hl2 : (cellsOf (ps.take k)).length = k * 2 := by rw [cellsOf_length, List.length_take, HN.out, Nat.min_eq_left hkn]
      generalize cellsOf (ps.take k) = cs at *
      have Hnn' := Hnn.out
      rw [show k * 16 = 16 * k by omega] at hat
      have HA := Lib.hid (fun w' (k' : Kp w w') => le64_c px b0 g (off + 4 + 16 * k) (n - 4 - 16 * k) (c - 4 - 16 * k) (by omega) (by omega) w' (Nat.lt_of_lt_of_le hg k'.size) (hat.front.kp hg k'))
      have hbk := hat.back
      rw [num64_length] at hbk
      have HB := Lib.hid (fun w' (k' : Kp w w') => le64_c py b1 g (off + 4 + (16 * k + 8)) (n - 4 - (16 * k + 8)) (c - 4 - (16 * k + 8)) (by omega) (by omega) w' (Nat.lt_of_lt_of_le hg k'.size) (BytesAt.kp (by rw [show off + 4 + (16 * k + 8) = off + 4 + 16 * k + 8 by omega]; exact hbk) hg k'))
      have Hc := Lib.hid hc1
      have Hl2 := Lib.hid hl2
      have Hg0 := Lib.hid hg0
      have Hown := Lib.hid hown
      clear hc1 hg0 hq hat hbk hl2 b0 b1 Hnn'
      have hsz := hkp.size
      have hkr := Lib.hid hkp
      go_wp2_with (at_builtin; refine wpList_append_own2 _ rfl (.tmp 41) (.tmp 43) 89 rfl w.heap.size 88 i0 (.agg #[.float .f64 0, .float .f64 0]) 2 16 Tryz.underlying89 hi hz0 hz1 hz2 rfl (by decide) _ k _ rfl (own_kp Hown.out (by repeat (first | (with_reducible exact Kp.refl _) | (with_reducible assumption) | (with_reducible apply Kp.ext) | (with_reducible apply Kp.alloc) | (with_reducible apply Kp.drew) | (with_reducible apply Kp.drewN) | (with_reducible refine Kp.setCell ?_ (by first | (dsimp only; omega) | (simp; omega) | (simp; done) | (simp [size_ext_eq]; omega)) _)))) ⟨_, 0, none⟩ 1 1 [.float .f64 0, .float .f64 0] rfl rfl ?c1 ?c2 ?c3 ?c4 ?c5 ?_)
      case c1 => exact new_cells2 _ _ _ _
      case c2 => exact one_cells2 _ _
      case c3 => unfold maxLen; omega
      case c4 => omega
      case c5 => simp; omega
      intro v' w1 hown1 hgrow1 hblk
      have hk1 : Kp w w1 := Below.grown (hkr.out.alloc _) hgrow1 (by simp; omega) (fun q hq => (Hown.out.lt q hq).1)
      obtain ⟨gr, cr, rfl⟩ := own_pos hown1
      have hgr := own_size hown1 (g := gr) rfl
      have f0 : w1.cell? ⟨gr, k * 2, none⟩ = some (.float .f64 0) := by
        rw [hown1.cellAt (k * 2) (by omega), List.getElem?_append_right (by rw [Hl2.out]; omega), Hl2.out, Nat.sub_self]; rfl
      have f1 : w1.cell? ⟨gr, k * 2 + 1, none⟩ = some (.float .f64 0) := by
        rw [hown1.cellAt (k * 2 + 1) (by omega), List.getElem?_append_right (by rw [Hl2.out]; omega), Hl2.out, show k * 2 + 1 - k * 2 = 1 by omega]; rfl
      have fz : ∀ j, w1.frozen? ⟨gr, j, none⟩ = false := by
        rcases hown1.2 with ⟨h, _⟩ | ⟨g', cap', cur, hv, hb, hg', h1, h2, h3, h4⟩
        · cases h
        · injection hv with e1 e2 e3
          injection e1 with e1
          injection e1 with e1
          subst e1
          exact fun j => row_frozen hg'
      have Hw := Lib.hid (own_two hown1 Hl2.out (.float .f64 px) (.float .f64 py))
      have hg1 := Nat.lt_of_lt_of_le hg hk1.size
      have hne : g ≠ gr := by omega
      have hgr2 := hgr.2
      have HK1 := Lib.hid hk1
      have k10 : (k : Int) ≤ 300 := by omega
      have Hnn' := Hnn.out
      have k11 : (16 * (k : Int)) ≤ ((n - 4 : Nat) : Int) := by omega
      have k12 : (c - 4 = 16 * k) = False := eq_false (by omega)
      have k13 : (16 * k = c - 4) = False := eq_false (by omega)
      have k14 : (16 * (k : Int) + 8) ≤ ((n - 4 : Nat) : Int) := by omega
      have k15 : (c - 4 = 16 * k + 8) = False := eq_false (by omega)
      clear hown1 hgrow1 hblk Hnn'
      go_wp2_with fail
      first | (with_reducible refine wp_region_ext_tail2 10 ?_ ?_ ?_) | refine wp_region_ext_tail 10 ?_ ?_ ?_
      kernel_rfl
      kernel_rfl
      simp only [List.take_succ_cons, List.take_zero, List.drop_succ_cons, List.drop_zero]
      repeat (go_big_quiet_step ((go_at_call 80; with_reducible exact Ret.quiet (HA.out _ (by repeat (first | (with_reducible exact Kp.refl _) | (with_reducible assumption) | (with_reducible apply Kp.ext) | (with_reducible apply Kp.alloc) | (with_reducible apply Kp.drew) | (with_reducible apply Kp.drewN) | (with_reducible refine Kp.setCell ?_ (by first | (dsimp only; omega) | (simp; omega) | (simp; done) | (simp [size_ext_eq]; omega)) _)))))))
      refine wpQuiet_nil ?_
      rintro _ ⟨u, rfl⟩
      go_wp2_with fail
      first | (with_reducible refine wp_region_ext_tail2 11 ?_ ?_ ?_) | refine wp_region_ext_tail 11 ?_ ?_ ?_
      kernel_rfl
      kernel_rfl
      simp only [List.take_succ_cons, List.take_zero, List.drop_succ_cons, List.drop_zero]
      repeat (go_big_quiet_step ((go_at_call 80; with_reducible exact Ret.quiet (HB.out _ (by repeat (first | (with_reducible exact Kp.refl _) | (with_reducible assumption) | (with_reducible apply Kp.ext) | (with_reducible apply Kp.alloc) | (with_reducible apply Kp.drew) | (with_reducible apply Kp.drewN) | (with_reducible refine Kp.setCell ?_ (by first | (dsimp only; omega) | (simp; omega) | (simp; done) | (simp [size_ext_eq]; omega)) _)))))))
      refine wpQuiet_nil ?_
      rintro _ ⟨u, rfl⟩
      go_wp2_with fail
      go_roundw
      case rel => exact ⟨k + 1, by omega, by go_num, (by repeat (first | (with_reducible exact Kp.refl _) | (with_reducible assumption) | (with_reducible apply Kp.ext) | (with_reducible apply Kp.alloc) | (with_reducible apply Kp.drew) | (with_reducible apply Kp.drewN) | (with_reducible refine Kp.setCell ?_ (by first | (dsimp only; omega) | (simp; omega) | (simp; done) | (simp [size_ext_eq]; omega)) _))), (by rw [Hc.out]; exact own_kp Hw.out (by repeat (first | (with_reducible exact Kp.refl _) | (with_reducible assumption) | (with_reducible apply Kp.ext) | (with_reducible apply Kp.alloc) | (with_reducible apply Kp.drew) | (with_reducible apply Kp.drewN) | (with_reducible refine Kp.setCell ?_ (by first | (dsimp only; omega) | (simp; omega) | (simp; done) | (simp [size_ext_eq]; omega)) _)))), _, rfl⟩
      case measure => simp [intOf]; omega
    · obtain rfl : k = N := by omega
      have Hown := Lib.hid (show wr.ownsRow w.heap.size 88 2 u8 ps.length (cellsOf ps) by
        rw [← HN.out, List.take_of_length_le (Nat.le_refl _)] at hown
        exact hown)
      have Hg0 := Lib.hid hg0
      clear hown hg0
      go_wp2_with fail
      refine bodyPost_ret (v := .tuple #[u8, .nilIface]) (by simp [results, Tryz.results86, go_sem]) rfl ?_
      exact ⟨_, _, rfl, ext_of hkp, own_ptsB Hown.out ⟨_, Hg0.out⟩⟩

set_option maxRecDepth 20000 in
set_option maxHeartbeats 2000000 in
theorem unPts_be (ps : List (Nat × Nat)) (hn : ps.length ≤ 300) (hbits : Bits ps) (g off n c : Nat) (hnn : 4 + ps.length * 16 ≤ n) (hnc : n ≤ c) (hc4 : c ≠ 4) (hm : n ≤ 1000000000000) (w : World) (hg : g < w.heap.size) (h0 : BytesAt w g off (num32 ps.length true)) (h1 : BytesAt w g (off + 4) (ptsForm ps true)) :
    Calls Tryz.prog 86 #[.int .i64 0, .slice (some ⟨g, off, none⟩) n c] w (RetPts w ps) := by
  obtain ⟨i0, hi, hz0, hz1, hz2⟩ := info_parts infoOPt
  have HU := Lib.hid (fun w' (k' : Kp w w') => (show Calls Tryz.prog 84 #[.int .i64 0, _] _ _ from un32_c ps.length (by omega) true g off n c (by omega) w' (Nat.lt_of_lt_of_le hg k'.size) (h0.kp hg k')))
  have hmk : ∀ w, (Instr.makeSlice 89 (.int .i64 0) (.int .u32 (ps.length : Int))).run Tryz.prog w = .ok (.slice (some ⟨w.heap.size, 0, none⟩) 0 ps.length) (w.alloc (.cells (madeCells #[.float .f64 0, .float .f64 0] (ps.length * 2)) 88)) := fun w => by
    have := run_make (P := Tryz.prog) w 89 88 i0 (.agg #[.float .f64 0, .float .f64 0]) Tryz.underlying89 hi hz0 .i64 .u32 0 (ps.length : Int) (by omega) (by omega) (by rw [hz2]; omega) (by omega)
    rw [this, hz1]
    rfl
  have k1 : ((n : Int) < 4) = False := eq_false (by omega)
  have k2 : (4 : Int) ≤ (n : Int) := by omega
  have k3 : (4 = c) = False := eq_false (by omega)
  have k4 : (c = 4) = False := eq_false (by omega)
  have k5 : ((n : Int) - 4 < (ps.length : Int) * 16) = False := eq_false (by omega)
  have k5' : (((n - 4 : Nat) : Int) < (ps.length : Int) * 16) = False := eq_false (by omega)
  have k7 : IntKind.u64.wrap ((n - 4 : Nat) : Int) = ((n - 4 : Nat) : Int) := by rw [IntKind.wrap_u64]; omega
  have k6 : ((10000 : Int) < (ps.length : Int)) = False := eq_false (by omega)
  obtain ⟨N, hN⟩ : ∃ N, ps.length = N := ⟨_, rfl⟩
  rw [hN] at hn hnn HU hmk k5 k5' k6
  have HN := Lib.hid hN
  have H1 := Lib.hid h1
  have Hb := Lib.hid hbits
  have Hnn := Lib.hid hnn
  clear h0 h1 hbits hnn hN
  go_enter Tryz.func86, Tryz.ntmps86
  go_wp2_with (go_at_call 84; (first | (with_reducible refine (Ret.at_ext (HU.out _ (by repeat (first | (with_reducible exact Kp.refl _) | (with_reducible assumption) | (with_reducible apply Kp.ext) | (with_reducible apply Kp.alloc) | (with_reducible apply Kp.drew) | (with_reducible apply Kp.drewN) | (with_reducible refine Kp.setCell ?_ (by first | (dsimp only; omega) | (simp; omega) | (simp; done) | (simp [size_ext_eq]; omega)) _))))).mono ?_) | (with_reducible refine (HU.out _ (by repeat (first | (with_reducible exact Kp.refl _) | (with_reducible assumption) | (with_reducible apply Kp.ext) | (with_reducible apply Kp.alloc) | (with_reducible apply Kp.drew) | (with_reducible apply Kp.drewN) | (with_reducible refine Kp.setCell ?_ (by first | (dsimp only; omega) | (simp; omega) | (simp; done) | (simp [size_ext_eq]; omega)) _)))).mono ?_)); rintro e w' ⟨rfl, u, rfl⟩)
  go_loopw [8, 10] (fun s8 si wr => ∃ k : Nat, k ≤ N ∧ si = .int .i64 k ∧ Kp w wr ∧ wr.ownsRow w.heap.size 88 2 s8 k (cellsOf (ps.take k)) ∧ ∃ g, s8.ownBlock = some g) (fun _ si _ => N - (intOf si).toNat)
  case atStart => exact ⟨0, Nat.zero_le _, rfl, (by repeat (first | (with_reducible exact Kp.refl _) | (with_reducible assumption) | (with_reducible apply Kp.ext) | (with_reducible apply Kp.alloc) | (with_reducible apply Kp.drew) | (with_reducible apply Kp.drewN) | (with_reducible refine Kp.setCell ?_ (by first | (dsimp only; omega) | (simp; omega) | (simp; done) | (simp [size_ext_eq]; omega)) _))), (by
    have h := World.ownsRow_made (base := w.heap.size) (e := 88) (size := 2) (ext w u) (madeCells #[.float .f64 0, .float .f64 0] (N * 2)) N (by rw [size_ext_eq]; omega) (by unfold maxLen; omega) (by simp [size_madeCells])
    rw [size_ext_eq] at h
    exact h), _, rfl⟩
  case round =>
    obtain ⟨k, hkn, rfl, hkp, hown, g0, hg0⟩ := hrel
    by_cases hlt : k < N
    · have hlt' : k < ps.length := by rw [HN.out]; exact hlt
      have hat := ptsForm_at (r := []) (by rw [List.append_nil]; exact H1.out) k hlt'
      have hc1 : cellsOf (ps.take (k + 1)) = cellsOf (ps.take k) ++ [.float .f64 (ps[k]'hlt').1, .float .f64 (ps[k]'hlt').2] := by
        rw [List.take_succ_eq_append_getElem hlt', cellsOf_snoc]
      obtain ⟨b0, b1⟩ := Hb.out k hlt'
      obtain ⟨⟨px, py⟩, hq⟩ : ∃ q, ps[k]'hlt' = q := ⟨_, rfl⟩
      rw [hq] at hat hc1 b0 b1
      simp only at hat hc1 b0 b1
      have hl2 : (cellsOf (ps.take k)).length = k * 2 := by rw [cellsOf_length, List.length_take, HN.out, Nat.min_eq_left hkn]
      generalize cellsOf (ps.take k) = cs at *
      have Hnn' := Hnn.out
      rw [show k * 16 = 16 * k by omega] at hat
      have HA := Lib.hid (fun w' (k' : Kp w w') => be64_c px b0 g (off + 4 + 16 * k) (n - 4 - 16 * k) (c - 4 - 16 * k) (by omega) (by omega) w' (Nat.lt_of_lt_of_le hg k'.size) (hat.front.kp hg k'))
      have hbk := hat.back
      rw [num64_length] at hbk
      have HB := Lib.hid (fun w' (k' : Kp w w') => be64_c py b1 g (off + 4 + (16 * k + 8)) (n - 4 - (16 * k + 8)) (c - 4 - (16 * k + 8)) (by omega) (by omega) w' (Nat.lt_of_lt_of_le hg k'.size) (BytesAt.kp (by rw [show off + 4 + (16 * k + 8) = off + 4 + 16 * k + 8 by omega]; exact hbk) hg k'))
      have Hc := Lib.hid hc1
      have Hl2 := Lib.hid hl2
      have Hg0 := Lib.hid hg0
      have Hown := Lib.hid hown
      clear hc1 hg0 hq hat hbk hl2 b0 b1 Hnn'
      have hsz := hkp.size
      have hkr := Lib.hid hkp
      go_wp2_with (at_builtin; refine wpList_append_own2 _ rfl (.tmp 72) (.tmp 74) 89 rfl w.heap.size 88 i0 (.agg #[.float .f64 0, .float .f64 0]) 2 16 Tryz.underlying89 hi hz0 hz1 hz2 rfl (by decide) _ k _ rfl (own_kp Hown.out (by repeat (first | (with_reducible exact Kp.refl _) | (with_reducible assumption) | (with_reducible apply Kp.ext) | (with_reducible apply Kp.alloc) | (with_reducible apply Kp.drew) | (with_reducible apply Kp.drewN) | (with_reducible refine Kp.setCell ?_ (by first | (dsimp only; omega) | (simp; omega) | (simp; done) | (simp [size_ext_eq]; omega)) _)))) ⟨_, 0, none⟩ 1 1 [.float .f64 0, .float .f64 0] rfl rfl ?c1 ?c2 ?c3 ?c4 ?c5 ?_)
      case c1 => exact new_cells2 _ _ _ _
      case c2 => exact one_cells2 _ _
      case c3 => unfold maxLen; omega
      case c4 => omega
      case c5 => simp; omega
      intro v' w1 hown1 hgrow1 hblk
      have hk1 : Kp w w1 := Below.grown (hkr.out.alloc _) hgrow1 (by simp; omega) (fun q hq => (Hown.out.lt q hq).1)
      obtain ⟨gr, cr, rfl⟩ := own_pos hown1
      have hgr := own_size hown1 (g := gr) rfl
      have f0 : w1.cell? ⟨gr, k * 2, none⟩ = some (.float .f64 0) := by
        rw [hown1.cellAt (k * 2) (by omega), List.getElem?_append_right (by rw [Hl2.out]; omega), Hl2.out, Nat.sub_self]; rfl
      have f1 : w1.cell? ⟨gr, k * 2 + 1, none⟩ = some (.float .f64 0) := by
        rw [hown1.cellAt (k * 2 + 1) (by omega), List.getElem?_append_right (by rw [Hl2.out]; omega), Hl2.out, show k * 2 + 1 - k * 2 = 1 by omega]; rfl
      have fz : ∀ j, w1.frozen? ⟨gr, j, none⟩ = false := by
        rcases hown1.2 with ⟨h, _⟩ | ⟨g', cap', cur, hv, hb, hg', h1, h2, h3, h4⟩
        · cases h
        · injection hv with e1 e2 e3
          injection e1 with e1
          injection e1 with e1
          subst e1
          exact fun j => row_frozen hg'
      have Hw := Lib.hid (own_two hown1 Hl2.out (.float .f64 px) (.float .f64 py))
      have hg1 := Nat.lt_of_lt_of_le hg hk1.size
      have hne : g ≠ gr := by omega
      have hgr2 := hgr.2
      have HK1 := Lib.hid hk1
      have k10 : (k : Int) ≤ 300 := by omega
      have Hnn' := Hnn.out
      have k11 : (16 * (k : Int)) ≤ ((n - 4 : Nat) : Int) := by omega
      have k12 : (c - 4 = 16 * k) = False := eq_false (by omega)
      have k13 : (16 * k = c - 4) = False := eq_false (by omega)
      have k14 : (16 * (k : Int) + 8) ≤ ((n - 4 : Nat) : Int) := by omega
      have k15 : (c - 4 = 16 * k + 8) = False := eq_false (by omega)
      clear hown1 hgrow1 hblk Hnn'
      go_wp2_with fail
      first | (with_reducible refine wp_region_ext_tail2 10 ?_ ?_ ?_) | refine wp_region_ext_tail 10 ?_ ?_ ?_
      kernel_rfl
      kernel_rfl
      simp only [List.take_succ_cons, List.take_zero, List.drop_succ_cons, List.drop_zero]
      repeat (go_big_quiet_step ((go_at_call 81; with_reducible exact Ret.quiet (HA.out _ (by repeat (first | (with_reducible exact Kp.refl _) | (with_reducible assumption) | (with_reducible apply Kp.ext) | (with_reducible apply Kp.alloc) | (with_reducible apply Kp.drew) | (with_reducible apply Kp.drewN) | (with_reducible refine Kp.setCell ?_ (by first | (dsimp only; omega) | (simp; omega) | (simp; done) | (simp [size_ext_eq]; omega)) _)))))))
      refine wpQuiet_nil ?_
      rintro _ ⟨u, rfl⟩
      go_wp2_with fail
      first | (with_reducible refine wp_region_ext_tail2 11 ?_ ?_ ?_) | refine wp_region_ext_tail 11 ?_ ?_ ?_
      kernel_rfl
      kernel_rfl
      simp only [List.take_succ_cons, List.take_zero, List.drop_succ_cons, List.drop_zero]
      repeat (go_big_quiet_step ((go_at_call 81; with_reducible exact Ret.quiet (HB.out _ (by repeat (first | (with_reducible exact Kp.refl _) | (with_reducible assumption) | (with_reducible apply Kp.ext) | (with_reducible apply Kp.alloc) | (with_reducible apply Kp.drew) | (with_reducible apply Kp.drewN) | (with_reducible refine Kp.setCell ?_ (by first | (dsimp only; omega) | (simp; omega) | (simp; done) | (simp [size_ext_eq]; omega)) _)))))))
      refine wpQuiet_nil ?_
      rintro _ ⟨u, rfl⟩
      go_wp2_with fail
      go_roundw
      case rel => exact ⟨k + 1, by omega, by go_num, (by repeat (first | (with_reducible exact Kp.refl _) | (with_reducible assumption) | (with_reducible apply Kp.ext) | (with_reducible apply Kp.alloc) | (with_reducible apply Kp.drew) | (with_reducible apply Kp.drewN) | (with_reducible refine Kp.setCell ?_ (by first | (dsimp only; omega) | (simp; omega) | (simp; done) | (simp [size_ext_eq]; omega)) _))), (by rw [Hc.out]; exact own_kp Hw.out (by repeat (first | (with_reducible exact Kp.refl _) | (with_reducible assumption) | (with_reducible apply Kp.ext) | (with_reducible apply Kp.alloc) | (with_reducible apply Kp.drew) | (with_reducible apply Kp.drewN) | (with_reducible refine Kp.setCell ?_ (by first | (dsimp only; omega) | (simp; omega) | (simp; done) | (simp [size_ext_eq]; omega)) _)))), _, rfl⟩
      case measure => simp [intOf]; omega
    · obtain rfl : k = N := by omega
      have Hown := Lib.hid (show wr.ownsRow w.heap.size 88 2 u8 ps.length (cellsOf ps) by
        rw [← HN.out, List.take_of_length_le (Nat.le_refl _)] at hown
        exact hown)
      have Hg0 := Lib.hid hg0
      clear hown hg0
      go_wp2_with fail
      refine bodyPost_ret (v := .tuple #[u8, .nilIface]) (by simp [results, Tryz.results86, go_sem]) rfl ?_
      exact ⟨_, _, rfl, ext_of hkp, own_ptsB Hown.out ⟨_, Hg0.out⟩⟩

set_option maxRecDepth 20000 in
set_option maxHeartbeats 2000000 in
theorem unPts0_le (g off : Nat) (w : World) (hg : g < w.heap.size) (h0 : BytesAt w g off (num32 0 false)) :
    Calls Tryz.prog 86 #[.int .i64 1, .slice (some ⟨g, off, none⟩) 4 4] w (RetPts w []) := by
  obtain ⟨i0, hi, hz0, hz1, hz2⟩ := info_parts infoOPt
  have HU := Lib.hid (fun w' (k' : Kp w w') => (show Calls Tryz.prog 84 #[.int .i64 1, _] _ (Ret _ (.int .u32 0)) from un32_c 0 (by omega) false g off 4 4 (by omega) w' (Nat.lt_of_lt_of_le hg k'.size) (h0.kp hg k')))
  have hmk : ∀ w, (Instr.makeSlice 89 (.int .i64 0) (.int .u32 0)).run Tryz.prog w = .ok (.slice (some ⟨w.heap.size, 0, none⟩) 0 0) (w.alloc (.cells #[] 88)) := fun w => by kernel_rfl
  clear h0
  go_enter Tryz.func86, Tryz.ntmps86
  go_wp2_with (go_at_call 84; (first | (with_reducible refine (Ret.at_ext (HU.out _ (by repeat (first | (with_reducible exact Kp.refl _) | (with_reducible assumption) | (with_reducible apply Kp.ext) | (with_reducible apply Kp.alloc) | (with_reducible apply Kp.drew) | (with_reducible apply Kp.drewN) | (with_reducible refine Kp.setCell ?_ (by first | (dsimp only; omega) | (simp; omega) | (simp; done) | (simp [size_ext_eq]; omega)) _))))).mono ?_) | (with_reducible refine (HU.out _ (by repeat (first | (with_reducible exact Kp.refl _) | (with_reducible assumption) | (with_reducible apply Kp.ext) | (with_reducible apply Kp.alloc) | (with_reducible apply Kp.drew) | (with_reducible apply Kp.drewN) | (with_reducible refine Kp.setCell ?_ (by first | (dsimp only; omega) | (simp; omega) | (simp; done) | (simp [size_ext_eq]; omega)) _)))).mono ?_)); rintro e w' ⟨rfl, u, rfl⟩)
  go_loopw [8, 9] (fun s8 si wr => si = .int .i64 0 ∧ Kp w wr ∧ PtsB w.heap.size wr.heap.size wr s8 []) (fun _ si _ => 0)
  case atStart => exact ⟨rfl, (by repeat (first | (with_reducible exact Kp.refl _) | (with_reducible assumption) | (with_reducible apply Kp.ext) | (with_reducible apply Kp.alloc) | (with_reducible apply Kp.drew) | (with_reducible apply Kp.drewN) | (with_reducible refine Kp.setCell ?_ (by first | (dsimp only; omega) | (simp; omega) | (simp; done) | (simp [size_ext_eq]; omega)) _))), _, 0, rfl, by omega, by simp [size_ext_eq], by simp [size_ext_eq], Nat.le_refl _, (by
    intro j
    have h := frozen_new (ext w u) #[] 88 j
    rw [size_ext_eq] at h
    exact h), fun i hi => by simp at hi⟩
  case round =>
    obtain ⟨rfl, hkp, hpb⟩ := hrel
    have Hpb := Lib.hid hpb
    clear hpb
    go_wp2_with fail
    refine bodyPost_ret (v := .tuple #[u8, .nilIface]) (by simp [results, Tryz.results86, go_sem]) rfl ?_
    exact ⟨_, _, rfl, ext_of hkp, Hpb.out⟩

set_option maxRecDepth 20000 in
set_option maxHeartbeats 2000000 in
theorem unPts0_be (g off : Nat) (w : World) (hg : g < w.heap.size) (h0 : BytesAt w g off (num32 0 true)) :
    Calls Tryz.prog 86 #[.int .i64 0, .slice (some ⟨g, off, none⟩) 4 4] w (RetPts w []) := by
  obtain ⟨i0, hi, hz0, hz1, hz2⟩ := info_parts infoOPt
  have HU := Lib.hid (fun w' (k' : Kp w w') => (show Calls Tryz.prog 84 #[.int .i64 0, _] _ (Ret _ (.int .u32 0)) from un32_c 0 (by omega) true g off 4 4 (by omega) w' (Nat.lt_of_lt_of_le hg k'.size) (h0.kp hg k')))
  have hmk : ∀ w, (Instr.makeSlice 89 (.int .i64 0) (.int .u32 0)).run Tryz.prog w = .ok (.slice (some ⟨w.heap.size, 0, none⟩) 0 0) (w.alloc (.cells #[] 88)) := fun w => by kernel_rfl
  clear h0
  go_enter Tryz.func86, Tryz.ntmps86
  go_wp2_with (go_at_call 84; (first | (with_reducible refine (Ret.at_ext (HU.out _ (by repeat (first | (with_reducible exact Kp.refl _) | (with_reducible assumption) | (with_reducible apply Kp.ext) | (with_reducible apply Kp.alloc) | (with_reducible apply Kp.drew) | (with_reducible apply Kp.drewN) | (with_reducible refine Kp.setCell ?_ (by first | (dsimp only; omega) | (simp; omega) | (simp; done) | (simp [size_ext_eq]; omega)) _))))).mono ?_) | (with_reducible refine (HU.out _ (by repeat (first | (with_reducible exact Kp.refl _) | (with_reducible assumption) | (with_reducible apply Kp.ext) | (with_reducible apply Kp.alloc) | (with_reducible apply Kp.drew) | (with_reducible apply Kp.drewN) | (with_reducible refine Kp.setCell ?_ (by first | (dsimp only; omega) | (simp; omega) | (simp; done) | (simp [size_ext_eq]; omega)) _)))).mono ?_)); rintro e w' ⟨rfl, u, rfl⟩)
  go_loopw [8, 10] (fun s8 si wr => si = .int .i64 0 ∧ Kp w wr ∧ PtsB w.heap.size wr.heap.size wr s8 []) (fun _ si _ => 0)
  case atStart => exact ⟨rfl, (by repeat (first | (with_reducible exact Kp.refl _) | (with_reducible assumption) | (with_reducible apply Kp.ext) | (with_reducible apply Kp.alloc) | (with_reducible apply Kp.drew) | (with_reducible apply Kp.drewN) | (with_reducible refine Kp.setCell ?_ (by first | (dsimp only; omega) | (simp; omega) | (simp; done) | (simp [size_ext_eq]; omega)) _))), _, 0, rfl, by omega, by simp [size_ext_eq], by simp [size_ext_eq], Nat.le_refl _, (by
    intro j
    have h := frozen_new (ext w u) #[] 88 j
    rw [size_ext_eq] at h
    exact h), fun i hi => by simp at hi⟩
  case round =>
    obtain ⟨rfl, hkp, hpb⟩ := hrel
    have Hpb := Lib.hid hpb
    clear hpb
    go_wp2_with fail
    refine bodyPost_ret (v := .tuple #[u8, .nilIface]) (by simp [results, Tryz.results86, go_sem]) rfl ?_
    exact ⟨_, _, rfl, ext_of hkp, Hpb.out⟩

set_option maxRecDepth 20000 in
set_option maxHeartbeats 2000000 in
theorem unPts_short (o : Int) (p : Option Addr) (n c : Nat) (hn : n < 4) (w : World) (hG : GlE w 3) :
    Calls Tryz.prog 86 #[.int .i64 o, .slice p n c] w (RetErr w fun v => .tuple #[.slice none 0 0, v]) := by
  have i1 : ((n : Int) < 4) := by omega
  obtain ⟨hlt, a, ha, hea⟩ := hG; have HE := Lib.hid hea; clear hea
  go_enter Tryz.func86, Tryz.ntmps86
  go_wp2_with fail
  first | (with_reducible refine wp_region_ext_lit2 ?_ ?_ ?_) | refine wp_region_ext_lit ?_ ?_ ?_
  kernel_rfl
  kernel_rfl
  repeat (go_big_quiet_step (fail))
  refine wpQuiet_nil ?_
  rintro _ ⟨u, rfl⟩
  go_wp2_with fail
  refine bodyPost_ret (v := .tuple #[.slice none 0 0, .iface 191 (.pointer (some a))]) (by simp [results, Tryz.results86, go_sem]) rfl ?_
  exact ⟨a, HE.out.kp (by repeat (first | (with_reducible exact Kp.refl _) | (with_reducible assumption) | (with_reducible apply Kp.ext) | (with_reducible apply Kp.alloc) | (with_reducible apply Kp.drew) | (with_reducible apply Kp.drewN) | (with_reducible refine Kp.setCell ?_ (by first | (dsimp only; omega) | (simp; omega) | (simp; done) | (simp [size_ext_eq]; omega)) _))), Ret.mk rfl (by repeat (first | (with_reducible exact Kp.refl _) | (with_reducible assumption) | (with_reducible apply Kp.ext) | (with_reducible apply Kp.alloc) | (with_reducible apply Kp.drew) | (with_reducible apply Kp.drewN) | (with_reducible refine Kp.setCell ?_ (by first | (dsimp only; omega) | (simp; omega) | (simp; done) | (simp [size_ext_eq]; omega)) _)))⟩

set_option maxRecDepth 20000 in
set_option maxHeartbeats 2000000 in
theorem unPts_cut (N : Nat) (hN : N ≤ 300) (big : Bool) (g off n c : Nat) (hn : 4 ≤ n) (hnn : n < 4 + N * 16) (hnc : n ≤ c) (w : World) (hg : g < w.heap.size) (h0 : BytesAt w g off (num32 N big)) (hG : GlE w 3) :
    Calls Tryz.prog 86 #[.int .i64 (ordI big), .slice (some ⟨g, off, none⟩) n c] w (RetErr w fun v => .tuple #[.slice none 0 0, v]) := by
  have HU := Lib.hid (fun w' (k' : Kp w w') => un32_c N (by omega) big g off n c (by omega) w' (Nat.lt_of_lt_of_le hg k'.size) (h0.kp hg k'))
  have i1 : ((n : Int) < 4) = False := eq_false (by omega)
  have k2 : (4 : Int) ≤ (n : Int) := by omega
  have k7 : IntKind.u64.wrap ((n - 4 : Nat) : Int) = ((n - 4 : Nat) : Int) := by rw [IntKind.wrap_u64]; omega
  have k5 : (((n - 4 : Nat) : Int) < (N : Int) * 16) := by omega
  obtain ⟨hlt, a, ha, hea⟩ := hG; have HE := Lib.hid hea; clear hea
  generalize ordI big = o at *
  clear h0
  by_cases hc : c = 4
  · subst hc
    obtain rfl : n = 4 := by omega
    have k6 : 0 < N := by omega
    clear k7 k5
    go_enter Tryz.func86, Tryz.ntmps86
    go_wp2_with (go_at_call 84; (first | (with_reducible refine (Ret.at_ext (HU.out _ (by repeat (first | (with_reducible exact Kp.refl _) | (with_reducible assumption) | (with_reducible apply Kp.ext) | (with_reducible apply Kp.alloc) | (with_reducible apply Kp.drew) | (with_reducible apply Kp.drewN) | (with_reducible refine Kp.setCell ?_ (by first | (dsimp only; omega) | (simp; omega) | (simp; done) | (simp [size_ext_eq]; omega)) _))))).mono ?_) | (with_reducible refine (HU.out _ (by repeat (first | (with_reducible exact Kp.refl _) | (with_reducible assumption) | (with_reducible apply Kp.ext) | (with_reducible apply Kp.alloc) | (with_reducible apply Kp.drew) | (with_reducible apply Kp.drewN) | (with_reducible refine Kp.setCell ?_ (by first | (dsimp only; omega) | (simp; omega) | (simp; done) | (simp [size_ext_eq]; omega)) _)))).mono ?_)); rintro e w' ⟨rfl, u, rfl⟩)
    first | (with_reducible refine wp_region_ext_lit2 ?_ ?_ ?_) | refine wp_region_ext_lit ?_ ?_ ?_
    kernel_rfl
    kernel_rfl
    repeat (go_big_quiet_step (fail))
    refine wpQuiet_nil ?_
    rintro _ ⟨u, rfl⟩
    go_wp2_with fail
    refine bodyPost_ret (v := .tuple #[.slice none 0 0, .iface 191 (.pointer (some a))]) (by simp [results, Tryz.results86, go_sem]) rfl ?_
    exact ⟨a, HE.out.kp (by repeat (first | (with_reducible exact Kp.refl _) | (with_reducible assumption) | (with_reducible apply Kp.ext) | (with_reducible apply Kp.alloc) | (with_reducible apply Kp.drew) | (with_reducible apply Kp.drewN) | (with_reducible refine Kp.setCell ?_ (by first | (dsimp only; omega) | (simp; omega) | (simp; done) | (simp [size_ext_eq]; omega)) _))), Ret.mk rfl (by repeat (first | (with_reducible exact Kp.refl _) | (with_reducible assumption) | (with_reducible apply Kp.ext) | (with_reducible apply Kp.alloc) | (with_reducible apply Kp.drew) | (with_reducible apply Kp.drewN) | (with_reducible refine Kp.setCell ?_ (by first | (dsimp only; omega) | (simp; omega) | (simp; done) | (simp [size_ext_eq]; omega)) _)))⟩
  · have k3 : (4 = c) = False := eq_false (by omega)
    have k4 : (c = 4) = False := eq_false (by omega)
    go_enter Tryz.func86, Tryz.ntmps86
    go_wp2_with (go_at_call 84; (first | (with_reducible refine (Ret.at_ext (HU.out _ (by repeat (first | (with_reducible exact Kp.refl _) | (with_reducible assumption) | (with_reducible apply Kp.ext) | (with_reducible apply Kp.alloc) | (with_reducible apply Kp.drew) | (with_reducible apply Kp.drewN) | (with_reducible refine Kp.setCell ?_ (by first | (dsimp only; omega) | (simp; omega) | (simp; done) | (simp [size_ext_eq]; omega)) _))))).mono ?_) | (with_reducible refine (HU.out _ (by repeat (first | (with_reducible exact Kp.refl _) | (with_reducible assumption) | (with_reducible apply Kp.ext) | (with_reducible apply Kp.alloc) | (with_reducible apply Kp.drew) | (with_reducible apply Kp.drewN) | (with_reducible refine Kp.setCell ?_ (by first | (dsimp only; omega) | (simp; omega) | (simp; done) | (simp [size_ext_eq]; omega)) _)))).mono ?_)); rintro e w' ⟨rfl, u, rfl⟩)
    first | (with_reducible refine wp_region_ext_lit2 ?_ ?_ ?_) | refine wp_region_ext_lit ?_ ?_ ?_
    kernel_rfl
    kernel_rfl
    repeat (go_big_quiet_step (fail))
    refine wpQuiet_nil ?_
    rintro _ ⟨u, rfl⟩
    go_wp2_with fail
    refine bodyPost_ret (v := .tuple #[.slice none 0 0, .iface 191 (.pointer (some a))]) (by simp [results, Tryz.results86, go_sem]) rfl ?_
    exact ⟨a, HE.out.kp (by repeat (first | (with_reducible exact Kp.refl _) | (with_reducible assumption) | (with_reducible apply Kp.ext) | (with_reducible apply Kp.alloc) | (with_reducible apply Kp.drew) | (with_reducible apply Kp.drewN) | (with_reducible refine Kp.setCell ?_ (by first | (dsimp only; omega) | (simp; omega) | (simp; done) | (simp [size_ext_eq]; omega)) _))), Ret.mk rfl (by repeat (first | (with_reducible exact Kp.refl _) | (with_reducible assumption) | (with_reducible apply Kp.ext) | (with_reducible apply Kp.alloc) | (with_reducible apply Kp.drew) | (with_reducible apply Kp.drewN) | (with_reducible refine Kp.setCell ?_ (by first | (dsimp only; omega) | (simp; omega) | (simp; done) | (simp [size_ext_eq]; omega)) _)))⟩

/-- points, or an error, as the form is whole or cut off -/
def RetPB (b : Bool) (w : World) (ps : List (Nat × Nat)) (e : Ending) (w' : World) : Prop := (b = true → RetPts w ps e w') ∧ (b = false → RetErr w (fun v => .tuple #[.slice none 0 0, v]) e w')
theorem RetPB.yes {P : Program} {f : FuncId} {args : Array Value} {w : World} {ps : List (Nat × Nat)} (h : Calls P f args w (RetPts w ps)) : Calls P f args w (RetPB true w ps) := h.mono fun _ _ h => ⟨fun _ => h, nofun⟩
theorem RetPB.no {P : Program} {f : FuncId} {args : Array Value} {w : World} {ps : List (Nat × Nat)} (h : Calls P f args w (RetErr w fun v => .tuple #[.slice none 0 0, v])) : Calls P f args w (RetPB false w ps) := h.mono fun _ _ h => ⟨nofun, fun _ => h⟩

theorem unPts_c (b big : Bool) (ps : List (Nat × Nat)) (hn : ps.length ≤ 300) (hbits : Bits ps) (r bs : List Nat) (hP : PreB b (num32 ps.length big ++ ptsForm ps big) r bs) (a : Option Addr) (n c : Nat) (hnl : n = bs.length) (hnc : n ≤ c) (hm : n ≤ 1000000000000) (w : World) (hB : BytesO w a bs) (hG : GlE w 3) :
    Calls Tryz.prog 86 #[.int .i64 (ordI big), .slice a n c] w (RetPB b w ps) := by
  subst hnl
  rcases hP.step with ⟨r2, rfl, hP2⟩ | ⟨rfl, hP2, hl⟩
  · rw [List.length_append, num32_length] at hnc hm ⊢
    obtain ⟨g, off, rfl, hg, hb⟩ := hB.at (by rw [List.length_append, num32_length]; omega)
    have hbk := hb.back
    rw [num32_length] at hbk
    cases b
    · have hl := hP2.len
      rw [ptsForm_length] at hl
      exact RetPB.no (unPts_cut ps.length hn big g off _ c (by omega) (by omega) hnc w hg hb.front hG)
    · obtain rfl := hP2.whole
      rw [List.length_append, ptsForm_length] at hnc hm ⊢
      by_cases hc : c = 4
      · subst hc
        obtain rfl : ps = [] := List.eq_nil_of_length_eq_zero (by omega)
        have hz : (4 + (([] : List (Nat × Nat)).length * 16 + r.length)) = 4 := by omega
        rw [hz]
        cases big
        · exact RetPB.yes (unPts0_le g off w hg hb.front)
        · exact RetPB.yes (unPts0_be g off w hg hb.front)
      · cases big
        · exact RetPB.yes (unPts_le ps hn hbits g off _ c (by omega) hnc hc hm w hg hb.front hbk.front)
        · exact RetPB.yes (unPts_be ps hn hbits g off _ c (by omega) hnc hc hm w hg hb.front hbk.front)
  · rw [num32_length] at hl
    exact RetPB.no (unPts_short _ a _ c hl w hG)

theorem unLS_c (b big : Bool) (ps : List (Nat × Nat)) (hn : ps.length ≤ 300) (hbits : Bits ps) (r bs : List Nat) (hP : PreB b (num32 ps.length big ++ ptsForm ps big) r bs) (a : Option Addr) (n c : Nat) (hnl : n = bs.length) (hnc : n ≤ c) (hm : n ≤ 1000000000000) (w : World) (hB : BytesO w a bs) (hG : GlE w 3) :
    Calls Tryz.prog 69 #[.int .i64 (ordI big), .slice a n c] w (RetPB b w ps) := by
  have H := Lib.hid (unPts_c b big ps hn hbits r bs hP a n c hnl hnc hm w hB hG)
  generalize ordI big = o at *
  clear hP hB hG hnl hnc hm hn hbits
  cases b
  · go_enter Tryz.func69, Tryz.ntmps69
    go_wp2_with (go_at_call 86; (with_reducible refine (H.out).mono ?_); rintro e w' ⟨_, h2⟩; obtain ⟨a', hea, rfl, u, rfl⟩ := h2 rfl; have HE := Lib.hid hea; clear h2 hea)
    refine bodyPost_ret (v := .tuple #[.slice none 0 0, .iface 191 (.pointer (some a'))]) (by simp [results, Tryz.results69, go_sem]) rfl ?_
    exact ⟨nofun, fun _ => ⟨a', HE.out.kp (by repeat (first | (with_reducible exact Kp.refl _) | (with_reducible assumption) | (with_reducible apply Kp.ext) | (with_reducible apply Kp.alloc) | (with_reducible apply Kp.drew) | (with_reducible apply Kp.drewN) | (with_reducible refine Kp.setCell ?_ (by first | (dsimp only; omega) | (simp; omega) | (simp; done) | (simp [size_ext_eq]; omega)) _))), Ret.mk rfl (by repeat (first | (with_reducible exact Kp.refl _) | (with_reducible assumption) | (with_reducible apply Kp.ext) | (with_reducible apply Kp.alloc) | (with_reducible apply Kp.drew) | (with_reducible apply Kp.drewN) | (with_reducible refine Kp.setCell ?_ (by first | (dsimp only; omega) | (simp; omega) | (simp; done) | (simp [size_ext_eq]; omega)) _)))⟩⟩
  · go_enter Tryz.func69, Tryz.ntmps69
    go_wp2_with (go_at_call 86; (with_reducible refine (H.out).mono ?_); rintro e w' ⟨h1, _⟩; obtain ⟨v, u, rfl, rfl, hpb⟩ := h1 rfl; have Hpb := Lib.hid hpb; clear h1 hpb)
    refine bodyPost_ret (v := .tuple #[v, .nilIface]) (by simp [results, Tryz.results69, go_sem]) rfl ?_
    exact ⟨fun _ => ⟨v, _, rfl, rfl, Hpb.out⟩, nofun⟩

end Go.Proofs.YtobdohhabgnjiaaGreatDoor

set_option linter.all false
namespace Go.Proofs.YtobdohhabgnjiaaGreatDoor
open PubFl Go.RowKit

attribute [local go_sem] cell_ext frozen_ext ext_setCell cell_store size_ext_eq lt_p0 lt_p1 lt_p2 lt_p3 lt_p4 lt_p5 lt_p6 lt_p7 lt_p8 lt_p9 lt_p10 lt_p11 lt_p12 lt_p13 lt_p14 lt_p15 lt_p16 lt_p17 lt_p18 lt_p19 lt_p20 lt_p21 lt_p22 lt_p23 lt_p24 lt_p25 lt_p26 lt_p27 lt_p28 lt_p29 lt_p30 lt_p31 lt_p32 lt_q1 lt_q2 lt_q3 lt_q4 lt_q5 lt_q6 lt_q7 lt_q8 lt_q9 lt_q10 lt_q11 lt_q12 lt_q13 lt_q14 lt_q15 lt_q16 lt_q17 lt_q18 lt_q19 lt_q20 lt_q21 lt_q22 lt_q23 lt_q24 lt_q25 lt_q26 lt_q27 lt_q28 lt_q29 lt_q30 lt_q31 lt_q32 run_fop run_store_float
attribute [local go_sem high] cmp_eql cmp_neq cmp_lss cmp_leq cmp_gtr cmp_geq

/-- the parts from the i-th on, so many -/
def sufB (f : Nat → List Nat) : Nat → Nat → List Nat
  | _, 0 => []
  | i, m + 1 => f i ++ sufB f (i + 1) m
theorem accB_suf' (acc : List Nat) (f : Nat → List Nat) : ∀ (m n : Nat), accB acc f n ++ sufB f n m = accB acc f (n + m)
  | 0, n => by simp [sufB]
  | m + 1, n => by
    have e : accB acc f n ++ sufB f n (m + 1) = accB acc f (n + 1) ++ sufB f (n + 1) m := by
      show accB acc f n ++ (f n ++ sufB f (n + 1) m) = (accB acc f n ++ f n) ++ sufB f (n + 1) m
      rw [List.append_assoc]
    rw [e, accB_suf' acc f m (n + 1), show n + 1 + m = n + (m + 1) by omega]
theorem accB_suf (acc : List Nat) (f : Nat → List Nat) (n : Nat) : accB acc f n = acc ++ sufB f 0 n := by
  have := accB_suf' acc f n 0
  rw [Nat.zero_add] at this
  exact this.symm
/-- what a call hands back that reads a form: what this says, or an error -/
def RetUn (b : Bool) (w : World) (G : Nat → Nat → World → Value → Prop) (z : Value) (e : Ending) (w' : World) : Prop :=
  (b = true → ∃ v u, e = .returned (.tuple #[v, .nilIface]) ∧ w' = ext w u ∧ G w.heap.size w'.heap.size w' v) ∧ (b = false → RetErr w (fun v => .tuple #[z, v]) e w')
/-- .. with a number behind it -/
def RetSc (b : Bool) (w : World) (G : Nat → Nat → World → Value → Prop) (z : Value) (s : Int) (e : Ending) (w' : World) : Prop :=
  (b = true → ∃ v u, e = .returned (.tuple #[v, .int .i64 s, .nilIface]) ∧ w' = ext w u ∧ G w.heap.size w'.heap.size w' v) ∧ (b = false → RetErr w (fun v => .tuple #[z, .int .i64 0, v]) e w')
/-- the head of a form: it is not there, or it is there and something behind it -/
theorem PreB.head {b : Bool} {H F r bs : List Nat} (hH : H.length = 5) (hF : 0 < F.length) (h : PreB b (H ++ F) r bs) : (b = false ∧ bs.length < 6) ∨ (6 ≤ bs.length ∧ ∃ r2, bs = H ++ r2 ∧ PreB b F r r2) := by
  rcases h.step with ⟨r2, rfl, h2⟩ | ⟨h1, _, h2⟩
  · cases b
    · by_cases c : r2.length = 0
      · exact .inl ⟨rfl, by rw [List.length_append]; omega⟩
      · exact .inr ⟨by rw [List.length_append]; omega, r2, rfl, h2⟩
    · have := h2.whole
      exact .inr ⟨by rw [List.length_append, this, List.length_append]; omega, r2, rfl, h2⟩
  · exact .inl ⟨h1, by omega⟩
theorem headB_ord (k : Nat) (big : Bool) : headB k 0 big = (if big then 0 else 1) :: num32 k big := by unfold headB; simp
/-- unmarshalByteOrderType at such a head -/
theorem ubot_at (k : Nat) (hk : k < 16) (big : Bool) (r2 : List Nat) (g off n c : Nat) (hnl : n = (headB k 0 big ++ r2).length) (h6 : 6 ≤ n) (hnc : n ≤ c) (w : World) (hg : g < w.heap.size) (hb : BytesAt w g off (headB k 0 big ++ r2)) :
    Calls Tryz.prog 66 #[.slice (some ⟨g, off, none⟩) n c] w (Ret w (.tuple #[.int .i64 (ordI big), .int .u32 (k : Int), .int .i64 0, .slice (some ⟨g, off + 5, none⟩) (n - 5) (c - 5), .nilIface])) ∧ BytesO w (some ⟨g, off + 5, none⟩) r2 ∧ n - 5 = r2.length := by
  have hh := hb.front
  have hl : (headB k 0 big).length = 5 := by rw [headB_length]; rfl
  have hbk := hb.back
  rw [hl] at hbk
  rw [headB_ord] at hh
  refine ⟨ubot0_c k hk big g off n c h6 hnc w hg ?_ ?_, .inr ⟨g, _, rfl, hg, hbk⟩, ?_⟩
  · have := hh.b0
    rw [this]
    cases big <;> rfl
  · exact hh.tl
  · rw [hnl, List.length_append, hl]; omega

set_option maxRecDepth 20000 in
set_option maxHeartbeats 1000000 in
theorem scanPoint_c (b big : Bool) (x y : Nat) (hx : x < 2 ^ 64) (hy : y < 2 ^ 64) (r bs : List Nat) (hP : PreB b (headB 1 0 big ++ ptsForm [(x, y)] big) r bs) (a : Option Addr) (n c : Nat) (hnl : n = bs.length) (hnc : n ≤ c) (w : World) (hB : BytesO w a bs) (hG : GlE w 3) :
    Calls Tryz.prog 85 #[.slice a n c] w (RetSc b w (fun _ _ _ v => v = .agg #[.float .f64 x, .float .f64 y]) (.agg #[.float .f64 0, .float .f64 0]) 0) := by
  have epf : ptsForm [(x, y)] big = num64 x big ++ num64 y big := by unfold ptsForm; simp
  rw [epf] at hP
  subst hnl
  rcases hP.head (by rw [headB_length]; rfl) (by rw [List.length_append, num64_length]; omega) with ⟨rfl, hl⟩ | ⟨h6, r2, rfl, hP2⟩
  · have H := Lib.hid (fun w' (k : Kp w w') => ubot_err _ w' (bot_short a bs.length c hl w' (hG.kp k)))
    generalize bs.length = n at *
    clear hP hl hB hnc epf
    go_enter Tryz.func85, Tryz.ntmps85
    go_wp2_with (go_at_call 66; (with_reducible refine (H.out _ (by repeat (first | (with_reducible exact Kp.refl _) | (with_reducible assumption) | (with_reducible apply Kp.ext) | (with_reducible apply Kp.alloc) | (with_reducible apply Kp.drew) | (with_reducible apply Kp.drewN) | (with_reducible refine Kp.setCell ?_ (by first | (dsimp only; omega) | (simp; omega) | (simp; done) | (simp [size_ext_eq]; omega)) _)))).mono ?_); rintro e w' ⟨a', hea, rfl, u, rfl⟩; have HE := Lib.hid hea; clear hea)
    refine bodyPost_ret (v := .tuple #[.agg #[.float .f64 0, .float .f64 0], .int .i64 0, .iface 191 (.pointer (some a'))]) (by simp [results, Tryz.results85, go_sem]) rfl ?_
    exact ⟨nofun, fun _ => ⟨a', HE.out.kp (by repeat (first | (with_reducible exact Kp.refl _) | (with_reducible assumption) | (with_reducible apply Kp.ext) | (with_reducible apply Kp.alloc) | (with_reducible apply Kp.drew) | (with_reducible apply Kp.drewN) | (with_reducible refine Kp.setCell ?_ (by first | (dsimp only; omega) | (simp; omega) | (simp; done) | (simp [size_ext_eq]; omega)) _))), Ret.mk rfl (by repeat (first | (with_reducible exact Kp.refl _) | (with_reducible assumption) | (with_reducible apply Kp.ext) | (with_reducible apply Kp.alloc) | (with_reducible apply Kp.drew) | (with_reducible apply Kp.drewN) | (with_reducible refine Kp.setCell ?_ (by first | (dsimp only; omega) | (simp; omega) | (simp; done) | (simp [size_ext_eq]; omega)) _)))⟩⟩
  · obtain ⟨g, off, rfl, hg, hb⟩ := hB.at (by omega)
    have H := Lib.hid (fun w' (k : Kp w w') => (ubot_at 1 (by decide) big r2 g off _ c rfl h6 hnc w' (Nat.lt_of_lt_of_le hg k.size) (hb.kp hg k)).1)
    have hlen := (ubot_at 1 (by decide) big r2 g off _ c rfl h6 hnc w hg hb).2.2
    have hbk := hb.back
    rw [show (headB 1 0 big).length = 5 by rw [headB_length]; rfl] at hbk
    cases b
    · have hl2 := hP2.len
      rw [List.length_append, num64_length, num64_length] at hl2
      have H2 := Lib.hid (fun w' (k : Kp w w') => unPoint_short (ordI big) (some ⟨g, off + 5, none⟩) ((headB 1 0 big ++ r2).length - 5) (c - 5) (by omega) w' (hG.kp k))
      generalize ordI big = o at *
      generalize (headB 1 0 big ++ r2).length = n at *
      clear hP hP2 hB hb hbk hnc epf hlen hl2 h6
      go_enter Tryz.func85, Tryz.ntmps85
      go_wp2_with (first | (go_at_call 66; (first | (with_reducible refine (Ret.at_ext (H.out _ (by repeat (first | (with_reducible exact Kp.refl _) | (with_reducible assumption) | (with_reducible apply Kp.ext) | (with_reducible apply Kp.alloc) | (with_reducible apply Kp.drew) | (with_reducible apply Kp.drewN) | (with_reducible refine Kp.setCell ?_ (by first | (dsimp only; omega) | (simp; omega) | (simp; done) | (simp [size_ext_eq]; omega)) _))))).mono ?_) | (with_reducible refine (H.out _ (by repeat (first | (with_reducible exact Kp.refl _) | (with_reducible assumption) | (with_reducible apply Kp.ext) | (with_reducible apply Kp.alloc) | (with_reducible apply Kp.drew) | (with_reducible apply Kp.drewN) | (with_reducible refine Kp.setCell ?_ (by first | (dsimp only; omega) | (simp; omega) | (simp; done) | (simp [size_ext_eq]; omega)) _)))).mono ?_)); rintro e w' ⟨rfl, u, rfl⟩) | (go_at_call 67; (with_reducible refine (H2.out _ (by repeat (first | (with_reducible exact Kp.refl _) | (with_reducible assumption) | (with_reducible apply Kp.ext) | (with_reducible apply Kp.alloc) | (with_reducible apply Kp.drew) | (with_reducible apply Kp.drewN) | (with_reducible refine Kp.setCell ?_ (by first | (dsimp only; omega) | (simp; omega) | (simp; done) | (simp [size_ext_eq]; omega)) _)))).mono ?_); rintro e w' ⟨a', hea, rfl, u', rfl⟩; have HE := Lib.hid hea; clear hea))
      refine bodyPost_ret (v := .tuple #[.agg #[.float .f64 0, .float .f64 0], .int .i64 0, .iface 191 (.pointer (some a'))]) (by simp [results, Tryz.results85, go_sem]) rfl ?_
      exact ⟨nofun, fun _ => ⟨a', HE.out.kp (by repeat (first | (with_reducible exact Kp.refl _) | (with_reducible assumption) | (with_reducible apply Kp.ext) | (with_reducible apply Kp.alloc) | (with_reducible apply Kp.drew) | (with_reducible apply Kp.drewN) | (with_reducible refine Kp.setCell ?_ (by first | (dsimp only; omega) | (simp; omega) | (simp; done) | (simp [size_ext_eq]; omega)) _))), Ret.mk rfl (by repeat (first | (with_reducible exact Kp.refl _) | (with_reducible assumption) | (with_reducible apply Kp.ext) | (with_reducible apply Kp.alloc) | (with_reducible apply Kp.drew) | (with_reducible apply Kp.drewN) | (with_reducible refine Kp.setCell ?_ (by first | (dsimp only; omega) | (simp; omega) | (simp; done) | (simp [size_ext_eq]; omega)) _)))⟩⟩
    · obtain rfl := hP2.whole
      have hl2 : 16 ≤ (headB 1 0 big ++ (num64 x big ++ num64 y big ++ r)).length - 5 := by
        rw [hlen, List.length_append, List.length_append, num64_length, num64_length]; omega
      have H2 := Lib.hid (fun w' (k : Kp w w') => unPoint_c x y hx hy big g (off + 5) ((headB 1 0 big ++ (num64 x big ++ num64 y big ++ r)).length - 5) (c - 5) hl2 (by omega) w' (Nat.lt_of_lt_of_le hg k.size) (hbk.front.kp hg k))
      generalize ordI big = o at *
      generalize (headB 1 0 big ++ (num64 x big ++ num64 y big ++ r)).length = n at *
      clear hP hP2 hB hb hbk hnc epf hlen hl2 h6
      go_enter Tryz.func85, Tryz.ntmps85
      go_wp2_with (first | (go_at_call 66; (first | (with_reducible refine (Ret.at_ext (H.out _ (by repeat (first | (with_reducible exact Kp.refl _) | (with_reducible assumption) | (with_reducible apply Kp.ext) | (with_reducible apply Kp.alloc) | (with_reducible apply Kp.drew) | (with_reducible apply Kp.drewN) | (with_reducible refine Kp.setCell ?_ (by first | (dsimp only; omega) | (simp; omega) | (simp; done) | (simp [size_ext_eq]; omega)) _))))).mono ?_) | (with_reducible refine (H.out _ (by repeat (first | (with_reducible exact Kp.refl _) | (with_reducible assumption) | (with_reducible apply Kp.ext) | (with_reducible apply Kp.alloc) | (with_reducible apply Kp.drew) | (with_reducible apply Kp.drewN) | (with_reducible refine Kp.setCell ?_ (by first | (dsimp only; omega) | (simp; omega) | (simp; done) | (simp [size_ext_eq]; omega)) _)))).mono ?_)); rintro e w' ⟨rfl, u, rfl⟩) | (go_at_call 67; (first | (with_reducible refine (Ret.at_ext (H2.out _ (by repeat (first | (with_reducible exact Kp.refl _) | (with_reducible assumption) | (with_reducible apply Kp.ext) | (with_reducible apply Kp.alloc) | (with_reducible apply Kp.drew) | (with_reducible apply Kp.drewN) | (with_reducible refine Kp.setCell ?_ (by first | (dsimp only; omega) | (simp; omega) | (simp; done) | (simp [size_ext_eq]; omega)) _))))).mono ?_) | (with_reducible refine (H2.out _ (by repeat (first | (with_reducible exact Kp.refl _) | (with_reducible assumption) | (with_reducible apply Kp.ext) | (with_reducible apply Kp.alloc) | (with_reducible apply Kp.drew) | (with_reducible apply Kp.drewN) | (with_reducible refine Kp.setCell ?_ (by first | (dsimp only; omega) | (simp; omega) | (simp; done) | (simp [size_ext_eq]; omega)) _)))).mono ?_)); rintro e w' ⟨rfl, u, rfl⟩))
      refine bodyPost_ret (v := .tuple #[.agg #[.float .f64 x, .float .f64 y], .int .i64 0, .nilIface]) (by simp [results, Tryz.results85, go_sem]) rfl ?_
      exact ⟨fun _ => ⟨_, _, rfl, ext_of (show Kp w _ from (by repeat (first | (with_reducible exact Kp.refl _) | (with_reducible assumption) | (with_reducible apply Kp.ext) | (with_reducible apply Kp.alloc) | (with_reducible apply Kp.drew) | (with_reducible apply Kp.drewN) | (with_reducible refine Kp.setCell ?_ (by first | (dsimp only; omega) | (simp; omega) | (simp; done) | (simp [size_ext_eq]; omega)) _)))), rfl⟩, nofun⟩

set_option maxRecDepth 20000 in
set_option maxHeartbeats 1000000 in
theorem scanLS_c (b big : Bool) (F : List Nat) (hF : 0 < F.length) (ps : List (Nat × Nat)) (r bs : List Nat) (hP : PreB b (headB 2 0 big ++ F) r bs) (a : Option Addr) (n c : Nat) (hnl : n = bs.length) (hnc : n ≤ c) (w : World) (hB : BytesO w a bs) (hG : GlE w 3)
    (HU : ∀ (a : Option Addr) (n c : Nat) (r2 : List Nat) (w' : World), PreB b F r r2 → n = r2.length → n ≤ c → n ≤ bs.length → Kp w w' → BytesO w' a r2 → Calls Tryz.prog 69 #[.int .i64 (ordI big), .slice a n c] w' (RetUn b w' (fun lo hi w v => PtsB lo hi w v ps) (.slice none 0 0))) :
    Calls Tryz.prog 87 #[.slice a n c] w (RetSc b w (fun lo hi w v => PtsB lo hi w v ps) (.slice none 0 0) 0) := by
  subst hnl
  rcases hP.head (by rw [headB_length]; rfl) hF with ⟨rfl, hl⟩ | ⟨h6, r2, rfl, hP2⟩
  · have H := Lib.hid (fun w' (k : Kp w w') => ubot_err _ w' (bot_short a bs.length c hl w' (hG.kp k)))
    generalize bs.length = n at *
    clear hP hl hB hnc HU
    go_enter Tryz.func87, Tryz.ntmps87
    go_wp2_with (go_at_call 66; (with_reducible refine (H.out _ (by repeat (first | (with_reducible exact Kp.refl _) | (with_reducible assumption) | (with_reducible apply Kp.ext) | (with_reducible apply Kp.alloc) | (with_reducible apply Kp.drew) | (with_reducible apply Kp.drewN) | (with_reducible refine Kp.setCell ?_ (by first | (dsimp only; omega) | (simp; omega) | (simp; done) | (simp [size_ext_eq]; omega)) _)))).mono ?_); rintro e w' ⟨a', hea, rfl, u, rfl⟩; have HE := Lib.hid hea; clear hea)
    refine bodyPost_ret (v := .tuple #[.slice none 0 0, .int .i64 0, .iface 191 (.pointer (some a'))]) (by simp [results, Tryz.results87, go_sem]) rfl ?_
    exact ⟨nofun, fun _ => ⟨a', HE.out.kp (by repeat (first | (with_reducible exact Kp.refl _) | (with_reducible assumption) | (with_reducible apply Kp.ext) | (with_reducible apply Kp.alloc) | (with_reducible apply Kp.drew) | (with_reducible apply Kp.drewN) | (with_reducible refine Kp.setCell ?_ (by first | (dsimp only; omega) | (simp; omega) | (simp; done) | (simp [size_ext_eq]; omega)) _))), Ret.mk rfl (by repeat (first | (with_reducible exact Kp.refl _) | (with_reducible assumption) | (with_reducible apply Kp.ext) | (with_reducible apply Kp.alloc) | (with_reducible apply Kp.drew) | (with_reducible apply Kp.drewN) | (with_reducible refine Kp.setCell ?_ (by first | (dsimp only; omega) | (simp; omega) | (simp; done) | (simp [size_ext_eq]; omega)) _)))⟩⟩
  · obtain ⟨g, off, rfl, hg, hb⟩ := hB.at (by omega)
    have H := Lib.hid (fun w' (k : Kp w w') => (ubot_at 2 (by decide) big r2 g off _ c rfl h6 hnc w' (Nat.lt_of_lt_of_le hg k.size) (hb.kp hg k)).1)
    obtain ⟨_, hbo, hlen⟩ := (ubot_at 2 (by decide) big r2 g off _ c rfl h6 hnc w hg hb)
    have H2 := Lib.hid (fun w' (k : Kp w w') => HU (some ⟨g, off + 5, none⟩) _ (c - 5) r2 w' hP2 hlen (by omega) (by omega) k (hbo.kp k))
    generalize ordI big = o at *
    generalize (headB 2 0 big ++ r2).length = n at *
    clear hP hP2 hB hb hbo hnc hlen h6 HU
    cases b
    · go_enter Tryz.func87, Tryz.ntmps87
      go_wp2_with (first | (go_at_call 66; (first | (with_reducible refine (Ret.at_ext (H.out _ (by repeat (first | (with_reducible exact Kp.refl _) | (with_reducible assumption) | (with_reducible apply Kp.ext) | (with_reducible apply Kp.alloc) | (with_reducible apply Kp.drew) | (with_reducible apply Kp.drewN) | (with_reducible refine Kp.setCell ?_ (by first | (dsimp only; omega) | (simp; omega) | (simp; done) | (simp [size_ext_eq]; omega)) _))))).mono ?_) | (with_reducible refine (H.out _ (by repeat (first | (with_reducible exact Kp.refl _) | (with_reducible assumption) | (with_reducible apply Kp.ext) | (with_reducible apply Kp.alloc) | (with_reducible apply Kp.drew) | (with_reducible apply Kp.drewN) | (with_reducible refine Kp.setCell ?_ (by first | (dsimp only; omega) | (simp; omega) | (simp; done) | (simp [size_ext_eq]; omega)) _)))).mono ?_)); rintro e w' ⟨rfl, u, rfl⟩) | (go_at_call 69; (with_reducible refine (H2.out _ (by repeat (first | (with_reducible exact Kp.refl _) | (with_reducible assumption) | (with_reducible apply Kp.ext) | (with_reducible apply Kp.alloc) | (with_reducible apply Kp.drew) | (with_reducible apply Kp.drewN) | (with_reducible refine Kp.setCell ?_ (by first | (dsimp only; omega) | (simp; omega) | (simp; done) | (simp [size_ext_eq]; omega)) _)))).mono ?_); rintro e w' ⟨_, h2⟩; obtain ⟨a', hea, rfl, u', rfl⟩ := h2 rfl; have HE := Lib.hid hea; clear h2 hea))
      refine bodyPost_ret (v := .tuple #[.slice none 0 0, .int .i64 0, .iface 191 (.pointer (some a'))]) (by simp [results, Tryz.results87, go_sem]) rfl ?_
      exact ⟨nofun, fun _ => ⟨a', HE.out.kp (by repeat (first | (with_reducible exact Kp.refl _) | (with_reducible assumption) | (with_reducible apply Kp.ext) | (with_reducible apply Kp.alloc) | (with_reducible apply Kp.drew) | (with_reducible apply Kp.drewN) | (with_reducible refine Kp.setCell ?_ (by first | (dsimp only; omega) | (simp; omega) | (simp; done) | (simp [size_ext_eq]; omega)) _))), Ret.mk rfl (by repeat (first | (with_reducible exact Kp.refl _) | (with_reducible assumption) | (with_reducible apply Kp.ext) | (with_reducible apply Kp.alloc) | (with_reducible apply Kp.drew) | (with_reducible apply Kp.drewN) | (with_reducible refine Kp.setCell ?_ (by first | (dsimp only; omega) | (simp; omega) | (simp; done) | (simp [size_ext_eq]; omega)) _)))⟩⟩
    · go_enter Tryz.func87, Tryz.ntmps87
      go_wp2_with (first | (go_at_call 66; (first | (with_reducible refine (Ret.at_ext (H.out _ (by repeat (first | (with_reducible exact Kp.refl _) | (with_reducible assumption) | (with_reducible apply Kp.ext) | (with_reducible apply Kp.alloc) | (with_reducible apply Kp.drew) | (with_reducible apply Kp.drewN) | (with_reducible refine Kp.setCell ?_ (by first | (dsimp only; omega) | (simp; omega) | (simp; done) | (simp [size_ext_eq]; omega)) _))))).mono ?_) | (with_reducible refine (H.out _ (by repeat (first | (with_reducible exact Kp.refl _) | (with_reducible assumption) | (with_reducible apply Kp.ext) | (with_reducible apply Kp.alloc) | (with_reducible apply Kp.drew) | (with_reducible apply Kp.drewN) | (with_reducible refine Kp.setCell ?_ (by first | (dsimp only; omega) | (simp; omega) | (simp; done) | (simp [size_ext_eq]; omega)) _)))).mono ?_)); rintro e w' ⟨rfl, u, rfl⟩) | (go_at_call 69; (with_reducible refine (H2.out _ (by repeat (first | (with_reducible exact Kp.refl _) | (with_reducible assumption) | (with_reducible apply Kp.ext) | (with_reducible apply Kp.alloc) | (with_reducible apply Kp.drew) | (with_reducible apply Kp.drewN) | (with_reducible refine Kp.setCell ?_ (by first | (dsimp only; omega) | (simp; omega) | (simp; done) | (simp [size_ext_eq]; omega)) _)))).mono ?_); rintro e w' ⟨h1, _⟩; obtain ⟨v, u', rfl, rfl, hpb⟩ := h1 rfl; have Hpb := Lib.hid hpb; clear h1 hpb))
      refine bodyPost_ret (v := .tuple #[v, .int .i64 0, .nilIface]) (by simp [results, Tryz.results87, go_sem]) rfl ?_
      exact ⟨fun _ => ⟨_, _, rfl, ext_of (show Kp w _ from (by repeat (first | (with_reducible exact Kp.refl _) | (with_reducible assumption) | (with_reducible apply Kp.ext) | (with_reducible apply Kp.alloc) | (with_reducible apply Kp.drew) | (with_reducible apply Kp.drewN) | (with_reducible refine Kp.setCell ?_ (by first | (dsimp only; omega) | (simp; omega) | (simp; done) | (simp [size_ext_eq]; omega)) _)))), Hpb.out.mono (by simp [size_ext_eq]) (Nat.le_refl _)⟩, nofun⟩

end Go.Proofs.YtobdohhabgnjiaaGreatDoor
