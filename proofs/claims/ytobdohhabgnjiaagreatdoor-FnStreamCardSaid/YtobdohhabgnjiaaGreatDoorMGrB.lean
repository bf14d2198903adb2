/-
  writeMultiPoint, writeMultiLineString, writeMultiPolygon, writeCollection, given what Encode does with each part.
  Encoder.Encode of any shape.
  Encoder.Encode of any geometry.
  wkbcommon.GeomLength.
  GeomLength of any geometry: the length of its form.
  wkb.Marshal.
  wkb.Marshal: the bytes of the form.
  impl.Encode: the bytes of the form.
-/
import Derived.Test.YtobdohhabgnjiaaGreatDoorMGrA
import Derived.Test.YtobdohhabgnjiaaGreatDoorMForm
import Derived.Test.YtobdohhabgnjiaaGreatDoorEnc7
import Derived.Test.YtobdohhabgnjiaaGreatDoorMDecA
import Derived.Test.YtobdohhabgnjiaaGreatDoorMShOf
import Derived.Laws.MakeOwn
import Derived.Test.YtobdohhabgnjiaaGreatDoorStep
import Derived.Test.YtobdohhabgnjiaaGreatDoorGeo3
set_option linter.unnecessarySimpa false
set_option linter.all false
namespace Go.Proofs.YtobdohhabgnjiaaGreatDoor
open PubFl Go.RowKit

attribute [local go_sem] cell_ext frozen_ext ext_setCell cell_store size_ext_eq lt_p0 lt_p1 lt_p2 lt_p3 lt_p4 lt_p5 lt_p6 lt_p7 lt_p8 lt_p9 lt_p10 lt_p11 lt_p12 lt_p13 lt_p14 lt_p15 lt_p16 lt_p17 lt_p18 lt_p19 lt_p20 lt_p21 lt_p22 lt_p23 lt_p24 lt_p25 lt_p26 lt_p27 lt_p28 lt_p29 lt_p30 lt_p31 lt_p32 lt_q1 lt_q2 lt_q3 lt_q4 lt_q5 lt_q6 lt_q7 lt_q8 lt_q9 lt_q10 lt_q11 lt_q12 lt_q13 lt_q14 lt_q15 lt_q16 lt_q17 lt_q18 lt_q19 lt_q20 lt_q21 lt_q22 lt_q23 lt_q24 lt_q25 lt_q26 lt_q27 lt_q28 lt_q29 lt_q30 lt_q31 lt_q32 run_fop run_store_float
attribute [local go_sem high] cmp_eql cmp_neq cmp_lss cmp_leq cmp_gtr cmp_geq

theorem accB_succ (acc : List Nat) (f : Nat → List Nat) (k : Nat) : accB acc f (k + 1) = accB acc f k ++ f k := rfl
theorem accB_zero (acc : List Nat) (f : Nat → List Nat) : accB acc f 0 = acc := rfl

set_option maxRecDepth 20000 in
set_option maxHeartbeats 2000000 in
theorem writeMP_c (gE gb gB : Nat) (gD : Nat × Nat) (cap : Nat) (big : Bool) (bs : List Nat) (s : Nat) (hs : s ≤ 999999) (si : Int) (hsi : si = (s : Int)) (ps : List (Nat × Nat)) (hN : ps.length ≤ 300) (f : Nat → List Nat) (g c : Nat) (w : World) (h : EncW w gE gb gB gD cap big bs) (hg : g < w.heap.size) (hgn : NotG [gb] gB gD g) (hcell : PtsAt w g 0 ps)
    (hroom : bs.length + (accB (prefB 4 s ps.length big) f ps.length).length ≤ cap)
    (HI : ∀ (i : Nat) (hi : i < ps.length) (w' : World) (acc : List Nat), EncW w' gE gb gB gD cap big acc → acc.length + (f i).length ≤ cap → Kb [gb] gB gD w w' → Calls Tryz.prog 37 #[.pointer (some ⟨gE, 0, none⟩), .iface 88 (.agg #[.float .f64 (ps[i]'hi).1, .float .f64 (ps[i]'hi).2]), .int .i64 0] w' (RetE gE gb gB gD cap big acc (f i) w')) :
    Calls Tryz.prog 51 #[.pointer (some ⟨gE, 0, none⟩), .slice (some ⟨g, 0, none⟩) ps.length c, .int .i64 si] w (RetE gE gb gB gD cap big bs (accB (prefB 4 s ps.length big) f ps.length) w) := by
  have hm0 := accB_mono (prefB 4 s ps.length big) f (Nat.zero_le ps.length)
  rw [accB_zero, prefB_length] at hm0
  have HP := Lib.hid (prefix_c gE gb gB gD cap big bs 4 ps.length s 4 si rfl hsi (by decide) (by decide) (by omega) hs w h (by omega))
  have hstep := fun k => accB_succ (prefB 4 s ps.length big) f k
  have hmono := fun k n h => accB_mono (prefB 4 s ps.length big) f (k := k) (n := n) h
  have hz := accB_zero (prefB 4 s ps.length big) f
  generalize prefB 4 s ps.length big = pf at *
  generalize accB pf f = lin at *
  have Hstep := Lib.hid hstep
  have Hmono := Lib.hid hmono
  have Hz := Lib.hid hz
  have Hc := Lib.hid hcell
  have HIt := Lib.hid HI
  have Hroom := Lib.hid hroom
  clear hstep hmono hz hcell HI hsi h hm0 hroom
  obtain ⟨n, hn⟩ : ∃ n, ps.length = n := ⟨_, rfl⟩
  rw [hn] at HP hN Hroom ⊢
  have Hn := Lib.hid hn
  clear hn
  go_enter Tryz.func51, Tryz.ntmps51
  go_wp2_with (go_at_call 76; (with_reducible refine (HP.out).mono ?_); rintro e w1 ⟨rfl, hp1, hk1⟩)
  rw [← Hz.out] at hp1
  have H1 := Lib.hid hp1
  have K1 := Lib.hid hk1
  clear hp1 hk1
  go_loopw [21] (fun s21 wr => ∃ k : Nat, k ≤ n ∧ s21 = .int .i64 k ∧ EncW wr gE gb gB gD cap big (bs ++ lin k) ∧ Kb [gb] gB gD w wr) (fun s21 _ => n - (intOf s21).toNat)
  case atStart => exact ⟨0, Nat.zero_le _, rfl, H1.out, K1.out⟩
  case round =>
    obtain ⟨k, hkn, rfl, henc, hkx⟩ := hrel
    have hgr : g < wr.heap.size := Nat.lt_of_lt_of_le hg hkx.size
    by_cases hlt : k < n
    · have hroomk : (bs ++ lin k).length + (f k).length ≤ cap := by
        have e1 := Hstep.out k
        have e2 := Hmono.out (k + 1) n hlt
        have e3 := congrArg List.length e1
        have e4 := Hroom.out
        rw [List.length_append] at e3 ⊢
        omega
      obtain ⟨q0, q1⟩ := Hc.out k (by rw [Hn.out]; exact hlt)
      rw [Nat.zero_add] at q0 q1
      have c0 := (hkx.cellL (o := k * 2) hg hgn).trans q0
      have c1 := (hkx.cellL (o := k * 2 + 1) hg hgn).trans q1
      have HI := Lib.hid (fun w' (k' : Kp wr w') => HIt.out k (by rw [Hn.out]; exact hlt) w' _ (henc.kp k') hroomk (hkx.trans (Kb.of_kp k')))
      obtain ⟨⟨px, py⟩, hq⟩ : ∃ q, ps[k]'(by rw [Hn.out]; exact hlt) = q := ⟨_, rfl⟩
      simp only [hq] at c0 c1 HI
      clear hq q0 q1
      have KX := Lib.hid hkx
      clear henc hkx hroomk
      go_wp2_with (go_at_call 37; (with_reducible refine (HI.out _ (by repeat (first | (with_reducible exact Kp.refl _) | (with_reducible assumption) | (with_reducible apply Kp.ext) | (with_reducible apply Kp.alloc) | (with_reducible apply Kp.drew) | (with_reducible apply Kp.drewN) | (with_reducible refine Kp.setCell ?_ (by first | (dsimp only; omega) | (simp; omega) | (simp; done) | (simp [size_ext_eq]; omega)) _)))).mono ?_); rintro e w2 ⟨rfl, hp2, hk2⟩; rw [List.append_assoc, ← Hstep.out] at hp2; have H2 := Lib.hid hp2; have K2 := Lib.hid (KX.out.trans ((Kb.of_kp (show Kp wr _ from (by repeat (first | (with_reducible exact Kp.refl _) | (with_reducible assumption) | (with_reducible apply Kp.ext) | (with_reducible apply Kp.alloc) | (with_reducible apply Kp.drew) | (with_reducible apply Kp.drewN) | (with_reducible refine Kp.setCell ?_ (by first | (dsimp only; omega) | (simp; omega) | (simp; done) | (simp [size_ext_eq]; omega)) _))))).trans hk2)); clear hp2 hk2)
      go_roundw
      case rel => exact ⟨k + 1, by omega, by go_num, H2.out, K2.out⟩
      case measure => simp [intOf]; omega
    · obtain rfl : k = n := by omega
      have H4 := Lib.hid henc
      have K4 := Lib.hid hkx
      clear henc hkx
      go_wp2_with fail
      go_ret
      exact ⟨rfl, H4.out, K4.out⟩

set_option maxRecDepth 20000 in
set_option maxHeartbeats 2000000 in
theorem writeMLS_c (gE gb gB : Nat) (gD : Nat × Nat) (cap : Nat) (big : Bool) (bs : List Nat) (s : Nat) (hs : s ≤ 999999) (si : Int) (hsi : si = (s : Int)) (N : Nat) (hN : N ≤ 40) (xs : Nat → Value) (f : Nat → List Nat) (g c : Nat) (w : World) (h : EncW w gE gb gB gD cap big bs) (hg : g < w.heap.size) (hgn : NotG [gb] gB gD g) (hcell : ∀ i, i < N → w.cell? ⟨g, i, none⟩ = some (xs i))
    (hroom : bs.length + (accB (prefB 5 s N big) f N).length ≤ cap)
    (HI : ∀ (i : Nat) (hi : i < N) (w' : World) (acc : List Nat), EncW w' gE gb gB gD cap big acc → acc.length + (f i).length ≤ cap → Kb [gb] gB gD w w' → Calls Tryz.prog 37 #[.pointer (some ⟨gE, 0, none⟩), .iface 91 (xs i), .int .i64 0] w' (RetE gE gb gB gD cap big acc (f i) w')) :
    Calls Tryz.prog 53 #[.pointer (some ⟨gE, 0, none⟩), .slice (some ⟨g, 0, none⟩) N c, .int .i64 si] w (RetE gE gb gB gD cap big bs (accB (prefB 5 s N big) f N) w) := by
  have hm0 := accB_mono (prefB 5 s N big) f (Nat.zero_le N)
  rw [accB_zero, prefB_length] at hm0
  have HP := Lib.hid (prefix_c gE gb gB gD cap big bs 5 N s 5 si rfl hsi (by decide) (by decide) (by omega) hs w h (by omega))
  have hstep := fun k => accB_succ (prefB 5 s N big) f k
  have hmono := fun k n h => accB_mono (prefB 5 s N big) f (k := k) (n := n) h
  have hz := accB_zero (prefB 5 s N big) f
  generalize prefB 5 s N big = pf at *
  generalize accB pf f = lin at *
  have Hstep := Lib.hid hstep
  have Hmono := Lib.hid hmono
  have Hz := Lib.hid hz
  have Hc := Lib.hid hcell
  have HIt := Lib.hid HI
  have Hroom := Lib.hid hroom
  clear hstep hmono hz hcell HI hsi h hm0 hroom
  have n_eq : True := trivial
  go_enter Tryz.func53, Tryz.ntmps53
  go_wp2_with (go_at_call 76; (with_reducible refine (HP.out).mono ?_); rintro e w1 ⟨rfl, hp1, hk1⟩)
  rw [← Hz.out] at hp1
  have H1 := Lib.hid hp1
  have K1 := Lib.hid hk1
  clear hp1 hk1
  go_loopw [21] (fun s21 wr => ∃ k : Nat, k ≤ N ∧ s21 = .int .i64 k ∧ EncW wr gE gb gB gD cap big (bs ++ lin k) ∧ Kb [gb] gB gD w wr) (fun s21 _ => N - (intOf s21).toNat)
  case atStart => exact ⟨0, Nat.zero_le _, rfl, H1.out, K1.out⟩
  case round =>
    obtain ⟨k, hkn, rfl, henc, hkx⟩ := hrel
    have hgr : g < wr.heap.size := Nat.lt_of_lt_of_le hg hkx.size
    by_cases hlt : k < N
    · have hroomk : (bs ++ lin k).length + (f k).length ≤ cap := by
        have e1 := Hstep.out k
        have e2 := Hmono.out (k + 1) N hlt
        have e3 := congrArg List.length e1
        have e4 := Hroom.out
        rw [List.length_append] at e3 ⊢
        omega
      have c0 := (hkx.cellL (o := k) hg hgn).trans (Hc.out k hlt)
      have HI := Lib.hid (fun w' (k' : Kp wr w') => HIt.out k hlt w' _ (henc.kp k') hroomk (hkx.trans (Kb.of_kp k')))
      generalize xs k = x at *
      have KX := Lib.hid hkx
      clear henc hkx hroomk
      go_wp2_with (go_at_call 37; (with_reducible refine (HI.out _ (by repeat (first | (with_reducible exact Kp.refl _) | (with_reducible assumption) | (with_reducible apply Kp.ext) | (with_reducible apply Kp.alloc) | (with_reducible apply Kp.drew) | (with_reducible apply Kp.drewN) | (with_reducible refine Kp.setCell ?_ (by first | (dsimp only; omega) | (simp; omega) | (simp; done) | (simp [size_ext_eq]; omega)) _)))).mono ?_); rintro e w2 ⟨rfl, hp2, hk2⟩; rw [List.append_assoc, ← Hstep.out] at hp2; have H2 := Lib.hid hp2; have K2 := Lib.hid (KX.out.trans ((Kb.of_kp (show Kp wr _ from (by repeat (first | (with_reducible exact Kp.refl _) | (with_reducible assumption) | (with_reducible apply Kp.ext) | (with_reducible apply Kp.alloc) | (with_reducible apply Kp.drew) | (with_reducible apply Kp.drewN) | (with_reducible refine Kp.setCell ?_ (by first | (dsimp only; omega) | (simp; omega) | (simp; done) | (simp [size_ext_eq]; omega)) _))))).trans hk2)); clear hp2 hk2)
      go_roundw
      case rel => exact ⟨k + 1, by omega, by go_num, H2.out, K2.out⟩
      case measure => simp [intOf]; omega
    · obtain rfl : k = N := by omega
      have H4 := Lib.hid henc
      have K4 := Lib.hid hkx
      clear henc hkx
      go_wp2_with fail
      go_ret
      exact ⟨rfl, H4.out, K4.out⟩

set_option maxRecDepth 20000 in
set_option maxHeartbeats 2000000 in
theorem writeMPg_c (gE gb gB : Nat) (gD : Nat × Nat) (cap : Nat) (big : Bool) (bs : List Nat) (s : Nat) (hs : s ≤ 999999) (si : Int) (hsi : si = (s : Int)) (N : Nat) (hN : N ≤ 40) (xs : Nat → Value) (f : Nat → List Nat) (g c : Nat) (w : World) (h : EncW w gE gb gB gD cap big bs) (hg : g < w.heap.size) (hgn : NotG [gb] gB gD g) (hcell : ∀ i, i < N → w.cell? ⟨g, i, none⟩ = some (xs i))
    (hroom : bs.length + (accB (prefB 6 s N big) f N).length ≤ cap)
    (HI : ∀ (i : Nat) (hi : i < N) (w' : World) (acc : List Nat), EncW w' gE gb gB gD cap big acc → acc.length + (f i).length ≤ cap → Kb [gb] gB gD w w' → Calls Tryz.prog 37 #[.pointer (some ⟨gE, 0, none⟩), .iface 93 (xs i), .int .i64 0] w' (RetE gE gb gB gD cap big acc (f i) w')) :
    Calls Tryz.prog 55 #[.pointer (some ⟨gE, 0, none⟩), .slice (some ⟨g, 0, none⟩) N c, .int .i64 si] w (RetE gE gb gB gD cap big bs (accB (prefB 6 s N big) f N) w) := by
  have hm0 := accB_mono (prefB 6 s N big) f (Nat.zero_le N)
  rw [accB_zero, prefB_length] at hm0
  have HP := Lib.hid (prefix_c gE gb gB gD cap big bs 6 N s 6 si rfl hsi (by decide) (by decide) (by omega) hs w h (by omega))
  have hstep := fun k => accB_succ (prefB 6 s N big) f k
  have hmono := fun k n h => accB_mono (prefB 6 s N big) f (k := k) (n := n) h
  have hz := accB_zero (prefB 6 s N big) f
  generalize prefB 6 s N big = pf at *
  generalize accB pf f = lin at *
  have Hstep := Lib.hid hstep
  have Hmono := Lib.hid hmono
  have Hz := Lib.hid hz
  have Hc := Lib.hid hcell
  have HIt := Lib.hid HI
  have Hroom := Lib.hid hroom
  clear hstep hmono hz hcell HI hsi h hm0 hroom
  have n_eq : True := trivial
  go_enter Tryz.func55, Tryz.ntmps55
  go_wp2_with (go_at_call 76; (with_reducible refine (HP.out).mono ?_); rintro e w1 ⟨rfl, hp1, hk1⟩)
  rw [← Hz.out] at hp1
  have H1 := Lib.hid hp1
  have K1 := Lib.hid hk1
  clear hp1 hk1
  go_loopw [21] (fun s21 wr => ∃ k : Nat, k ≤ N ∧ s21 = .int .i64 k ∧ EncW wr gE gb gB gD cap big (bs ++ lin k) ∧ Kb [gb] gB gD w wr) (fun s21 _ => N - (intOf s21).toNat)
  case atStart => exact ⟨0, Nat.zero_le _, rfl, H1.out, K1.out⟩
  case round =>
    obtain ⟨k, hkn, rfl, henc, hkx⟩ := hrel
    have hgr : g < wr.heap.size := Nat.lt_of_lt_of_le hg hkx.size
    by_cases hlt : k < N
    · have hroomk : (bs ++ lin k).length + (f k).length ≤ cap := by
        have e1 := Hstep.out k
        have e2 := Hmono.out (k + 1) N hlt
        have e3 := congrArg List.length e1
        have e4 := Hroom.out
        rw [List.length_append] at e3 ⊢
        omega
      have c0 := (hkx.cellL (o := k) hg hgn).trans (Hc.out k hlt)
      have HI := Lib.hid (fun w' (k' : Kp wr w') => HIt.out k hlt w' _ (henc.kp k') hroomk (hkx.trans (Kb.of_kp k')))
      generalize xs k = x at *
      have KX := Lib.hid hkx
      clear henc hkx hroomk
      go_wp2_with (go_at_call 37; (with_reducible refine (HI.out _ (by repeat (first | (with_reducible exact Kp.refl _) | (with_reducible assumption) | (with_reducible apply Kp.ext) | (with_reducible apply Kp.alloc) | (with_reducible apply Kp.drew) | (with_reducible apply Kp.drewN) | (with_reducible refine Kp.setCell ?_ (by first | (dsimp only; omega) | (simp; omega) | (simp; done) | (simp [size_ext_eq]; omega)) _)))).mono ?_); rintro e w2 ⟨rfl, hp2, hk2⟩; rw [List.append_assoc, ← Hstep.out] at hp2; have H2 := Lib.hid hp2; have K2 := Lib.hid (KX.out.trans ((Kb.of_kp (show Kp wr _ from (by repeat (first | (with_reducible exact Kp.refl _) | (with_reducible assumption) | (with_reducible apply Kp.ext) | (with_reducible apply Kp.alloc) | (with_reducible apply Kp.drew) | (with_reducible apply Kp.drewN) | (with_reducible refine Kp.setCell ?_ (by first | (dsimp only; omega) | (simp; omega) | (simp; done) | (simp [size_ext_eq]; omega)) _))))).trans hk2)); clear hp2 hk2)
      go_roundw
      case rel => exact ⟨k + 1, by omega, by go_num, H2.out, K2.out⟩
      case measure => simp [intOf]; omega
    · obtain rfl : k = N := by omega
      have H4 := Lib.hid henc
      have K4 := Lib.hid hkx
      clear henc hkx
      go_wp2_with fail
      go_ret
      exact ⟨rfl, H4.out, K4.out⟩

set_option maxRecDepth 20000 in
set_option maxHeartbeats 2000000 in
theorem writeCol_c (gE gb gB : Nat) (gD : Nat × Nat) (cap : Nat) (big : Bool) (bs : List Nat) (s : Nat) (hs : s ≤ 999999) (si : Int) (hsi : si = (s : Int)) (N : Nat) (hN : N ≤ 40) (xs : Nat → Value) (f : Nat → List Nat) (g c : Nat) (w : World) (h : EncW w gE gb gB gD cap big bs) (hg : g < w.heap.size) (hgn : NotG [gb] gB gD g) (hcell : ∀ i, i < N → w.cell? ⟨g, i, none⟩ = some (xs i))
    (hroom : bs.length + (accB (prefB 7 s N big) f N).length ≤ cap)
    (HI : ∀ (i : Nat) (hi : i < N) (w' : World) (acc : List Nat), EncW w' gE gb gB gD cap big acc → acc.length + (f i).length ≤ cap → Kb [gb] gB gD w w' → Calls Tryz.prog 37 #[.pointer (some ⟨gE, 0, none⟩), xs i, .int .i64 0] w' (RetE gE gb gB gD cap big acc (f i) w')) :
    Calls Tryz.prog 56 #[.pointer (some ⟨gE, 0, none⟩), .slice (some ⟨g, 0, none⟩) N c, .int .i64 si] w (RetE gE gb gB gD cap big bs (accB (prefB 7 s N big) f N) w) := by
  have hm0 := accB_mono (prefB 7 s N big) f (Nat.zero_le N)
  rw [accB_zero, prefB_length] at hm0
  have HP := Lib.hid (prefix_c gE gb gB gD cap big bs 7 N s 7 si rfl hsi (by decide) (by decide) (by omega) hs w h (by omega))
  have hstep := fun k => accB_succ (prefB 7 s N big) f k
  have hmono := fun k n h => accB_mono (prefB 7 s N big) f (k := k) (n := n) h
  have hz := accB_zero (prefB 7 s N big) f
  generalize prefB 7 s N big = pf at *
  generalize accB pf f = lin at *
  have Hstep := Lib.hid hstep
  have Hmono := Lib.hid hmono
  have Hz := Lib.hid hz
  have Hc := Lib.hid hcell
  have HIt := Lib.hid HI
  have Hroom := Lib.hid hroom
  clear hstep hmono hz hcell HI hsi h hm0 hroom
  have n_eq : True := trivial
  go_enter Tryz.func56, Tryz.ntmps56
  go_wp2_with (go_at_call 76; (with_reducible refine (HP.out).mono ?_); rintro e w1 ⟨rfl, hp1, hk1⟩)
  rw [← Hz.out] at hp1
  have H1 := Lib.hid hp1
  have K1 := Lib.hid hk1
  clear hp1 hk1
  go_loopw [21] (fun s21 wr => ∃ k : Nat, k ≤ N ∧ s21 = .int .i64 k ∧ EncW wr gE gb gB gD cap big (bs ++ lin k) ∧ Kb [gb] gB gD w wr) (fun s21 _ => N - (intOf s21).toNat)
  case atStart => exact ⟨0, Nat.zero_le _, rfl, H1.out, K1.out⟩
  case round =>
    obtain ⟨k, hkn, rfl, henc, hkx⟩ := hrel
    have hgr : g < wr.heap.size := Nat.lt_of_lt_of_le hg hkx.size
    by_cases hlt : k < N
    · have hroomk : (bs ++ lin k).length + (f k).length ≤ cap := by
        have e1 := Hstep.out k
        have e2 := Hmono.out (k + 1) N hlt
        have e3 := congrArg List.length e1
        have e4 := Hroom.out
        rw [List.length_append] at e3 ⊢
        omega
      have c0 := (hkx.cellL (o := k) hg hgn).trans (Hc.out k hlt)
      have HI := Lib.hid (fun w' (k' : Kp wr w') => HIt.out k hlt w' _ (henc.kp k') hroomk (hkx.trans (Kb.of_kp k')))
      generalize xs k = x at *
      have KX := Lib.hid hkx
      clear henc hkx hroomk
      go_wp2_with (go_at_call 37; (with_reducible refine (HI.out _ (by repeat (first | (with_reducible exact Kp.refl _) | (with_reducible assumption) | (with_reducible apply Kp.ext) | (with_reducible apply Kp.alloc) | (with_reducible apply Kp.drew) | (with_reducible apply Kp.drewN) | (with_reducible refine Kp.setCell ?_ (by first | (dsimp only; omega) | (simp; omega) | (simp; done) | (simp [size_ext_eq]; omega)) _)))).mono ?_); rintro e w2 ⟨rfl, hp2, hk2⟩; rw [List.append_assoc, ← Hstep.out] at hp2; have H2 := Lib.hid hp2; have K2 := Lib.hid (KX.out.trans ((Kb.of_kp (show Kp wr _ from (by repeat (first | (with_reducible exact Kp.refl _) | (with_reducible assumption) | (with_reducible apply Kp.ext) | (with_reducible apply Kp.alloc) | (with_reducible apply Kp.drew) | (with_reducible apply Kp.drewN) | (with_reducible refine Kp.setCell ?_ (by first | (dsimp only; omega) | (simp; omega) | (simp; done) | (simp [size_ext_eq]; omega)) _))))).trans hk2)); clear hp2 hk2)
      go_roundw
      case rel => exact ⟨k + 1, by omega, by go_num, H2.out, K2.out⟩
      case measure => simp [intOf]; omega
    · obtain rfl : k = N := by omega
      have H4 := Lib.hid henc
      have K4 := Lib.hid hkx
      clear henc hkx
      go_wp2_with fail
      go_ret
      exact ⟨rfl, H4.out, K4.out⟩

end Go.Proofs.YtobdohhabgnjiaaGreatDoor

set_option linter.all false
namespace Go.Proofs.YtobdohhabgnjiaaGreatDoor
open PubFl Go.RowKit

attribute [local go_sem] cell_ext frozen_ext ext_setCell cell_store size_ext_eq lt_p0 lt_p1 lt_p2 lt_p3 lt_p4 lt_p5 lt_p6 lt_p7 lt_p8 lt_p9 lt_p10 lt_p11 lt_p12 lt_p13 lt_p14 lt_p15 lt_p16 lt_p17 lt_p18 lt_p19 lt_p20 lt_p21 lt_p22 lt_p23 lt_p24 lt_p25 lt_p26 lt_p27 lt_p28 lt_p29 lt_p30 lt_p31 lt_p32 lt_q1 lt_q2 lt_q3 lt_q4 lt_q5 lt_q6 lt_q7 lt_q8 lt_q9 lt_q10 lt_q11 lt_q12 lt_q13 lt_q14 lt_q15 lt_q16 lt_q17 lt_q18 lt_q19 lt_q20 lt_q21 lt_q22 lt_q23 lt_q24 lt_q25 lt_q26 lt_q27 lt_q28 lt_q29 lt_q30 lt_q31 lt_q32 run_fop run_store_float
attribute [local go_sem high] cmp_eql cmp_neq cmp_lss cmp_leq cmp_gtr cmp_geq

/-- what is written behind the order of bytes: the kind, the number of the reference system -/
def kindB (k s : Nat) (big : Bool) : List Nat := if s = 0 then num32 k big else num32 (k + 536870912) big ++ num32 s big
theorem head_kind (k s : Nat) (big : Bool) : headB k s big = [headO big] ++ kindB k s big := by
  unfold headB kindB headO; cases big <;> rfl
theorem prefB_kind (t s l : Nat) (big : Bool) : prefB t s l big = kindB t s big ++ num32 l big := by
  unfold prefB kindB; split <;> simp
theorem accB_front (a b : List Nat) (f : Nat → List Nat) : ∀ k, accB (a ++ b) f k = a ++ accB b f k
  | 0 => rfl
  | k + 1 => by
    show accB (a ++ b) f k ++ f k = a ++ (accB b f k ++ f k)
    rw [accB_front a b f k, List.append_assoc]

/-- blocks outside of others -/
def Off (S : List Nat) (lo hi : Nat) : Prop := ∀ b ∈ S, b < lo ∨ hi ≤ b
theorem Off.mono {S : List Nat} {lo hi l h : Nat} (o : Off S lo hi) (h1 : lo ≤ l) (h2 : h ≤ hi) : Off S l h := fun b hb => by have := o b hb; omega
theorem Off.not {S : List Nat} {lo hi g : Nat} (o : Off S lo hi) (h1 : lo ≤ g) (h2 : g < hi) : g ∉ S := fun h => by have := o g h; omega

theorem pts_slice {lo hi : Nat} {w : World} {v : Value} {ps : List (Nat × Nat)} (h : PtsB lo hi w v ps) : ∃ g c, v = .slice (some ⟨g, 0, none⟩) ps.length c ∧ lo ≤ g ∧ g < hi ∧ g < w.heap.size ∧ PtsAt w g 0 ps := by
  obtain ⟨g, c, hv, h1, h2, h3, _, _, h4⟩ := h
  exact ⟨g, c, hv, h1, h2, h3, h4⟩
theorem row_pick {E : Nat → Nat → Nat → World → Value → Prop} {lo hi : Nat} {w : World} {v : Value} {n : Nat} (h : RowB E lo hi w v n) : ∃ (g c : Nat) (xs : Nat → Value), v = .slice (some ⟨g, 0, none⟩) n c ∧ lo ≤ g ∧ g < hi ∧ g < w.heap.size ∧ (∀ i, i < n → w.cell? ⟨g, i, none⟩ = some (xs i)) ∧ ∀ i, i < n → ∃ l h, E i l h w (xs i) ∧ lo ≤ l ∧ h ≤ hi ∧ h ≤ w.heap.size := by
  obtain ⟨g, c, hv, h1, h2, h3, _, _, h4⟩ := h
  refine ⟨g, c, fun i => if h : i < n then (h4 i h).choose else .nilIface, hv, h1, h2, h3, fun i hi => ?_, fun i hi => ?_⟩
  · obtain ⟨l, h, hc, _⟩ := (h4 i hi).choose_spec
    simp only [dif_pos hi]
    exact hc
  · obtain ⟨l, h, hc, he, q1, q2, q3, _⟩ := (h4 i hi).choose_spec
    simp only [dif_pos hi]
    exact ⟨l, h, he, q1, q2, q3⟩

section
variable {gE gb gB : Nat} {gD : Nat × Nat} {cap : Nat} {big : Bool}

theorem wr1 (bs : List Nat) (x y : Nat) (hx : x < 2 ^ 64) (hy : y < 2 ^ 64) (sys : Nat) (hs : sys ≤ 999999) (w : World) (h : EncW w gE gb gB gD cap big bs) (hroom : bs.length + (kindB 1 sys big ++ ptsForm [(x, y)] big).length ≤ cap) :
    Calls Tryz.prog 50 #[.pointer (some ⟨gE, 0, none⟩), .agg #[.float .f64 x, .float .f64 y], .int .i64 (sys : Int)] w (RetE gE gb gB gD cap big bs (kindB 1 sys big ++ ptsForm [(x, y)] big) w) := by
  by_cases h0 : sys = 0
  · subst h0
    have e : kindB 1 0 big = num32 1 big := by unfold kindB; rfl
    rw [e] at hroom ⊢
    rw [List.length_append, num32_length, ptsForm_length] at hroom
    exact writePoint0_c gE gb gB gD cap big bs x y hx hy w h (by simp at hroom; omega)
  · have e : kindB 1 sys big = num32 536870913 big ++ num32 sys big := by unfold kindB; rw [if_neg h0]
    rw [e] at hroom ⊢
    rw [List.length_append, List.length_append, num32_length, num32_length, ptsForm_length] at hroom
    exact writePointS_c gE gb gB gD cap big bs x y hx hy sys (by omega) hs w h (by simp at hroom; omega)
theorem kindB_length (k s : Nat) (big : Bool) : (kindB k s big).length + 4 = prefN s := by
  unfold kindB prefN; split <;> simp [num32_length]
theorem wr2 (bs : List Nat) (ps : List (Nat × Nat)) (h300 : ps.length ≤ 300) (hb : Bits ps) (sys : Nat) (hs : sys ≤ 999999) (lo hi : Nat) (v : Value) (w : World) (hv : PtsB lo hi w v ps) (ho : OffG [gb] gB gD lo hi) (h : EncW w gE gb gB gD cap big bs) (hroom : bs.length + (kindB 2 sys big ++ num32 ps.length big ++ ptsForm ps big).length ≤ cap) :
    Calls Tryz.prog 52 #[.pointer (some ⟨gE, 0, none⟩), v, .int .i64 (sys : Int)] w (RetE gE gb gB gD cap big bs (kindB 2 sys big ++ num32 ps.length big ++ ptsForm ps big) w) := by
  obtain ⟨g, c, rfl, h1, h2, h3, hpt⟩ := pts_slice hv
  have hk := kindB_length 2 sys big
  rw [List.length_append, List.length_append, num32_length, ptsForm_length] at hroom
  have := writeLS_c gE gb gB gD cap big bs sys hs sys rfl ps h300 hb g c w h h3 (ho.not h1 h2) hpt (by omega)
  rwa [prefB_kind] at this
theorem rings_of {S : List Nat} {gB : Nat} {gD : Nat × Nat} {ls : List (List (Nat × Nat))} {lo hi : Nat} {w : World} {v : Value} (hv : ListsB ls lo hi w v) (ho : OffG S gB gD lo hi) : ∃ g c, v = .slice (some ⟨g, 0, none⟩) ls.length c ∧ g < w.heap.size ∧ NotG S gB gD g ∧ RingsAt w g ls (NotG S gB gD) := by
  obtain ⟨g, c, xs, hv, h1, h2, h3, h4, h5⟩ := row_pick hv
  refine ⟨g, c, hv, h3, ho.not h1 h2, fun i hi => ?_⟩
  obtain ⟨l, h, he, q1, q2, q3⟩ := h5 i hi
  unfold ListE at he
  rw [getD_ls _ _ hi] at he
  obtain ⟨g2, c2, hx, p1, p2, p3, p4⟩ := pts_slice he
  exact ⟨g2, c2, by rw [h4 i hi, hx], p3, (ho.mono q1 q2).not p1 p2, p4⟩
theorem wr3 (bs : List Nat) (ls : List (List (Nat × Nat))) (h40 : ls.length ≤ 40) (hns : ∀ l ∈ ls, l.length ≤ 300) (hbs : ∀ l ∈ ls, Bits l) (sys : Nat) (hs : sys ≤ 999999) (lo hi : Nat) (v : Value) (w : World) (hv : ListsB ls lo hi w v) (ho : OffG [gb] gB gD lo hi) (h : EncW w gE gb gB gD cap big bs)
    (hroom : bs.length + (accB (kindB 3 sys big ++ num32 ls.length big) (fun i => num32 (ls.getD i []).length big ++ ptsForm (ls.getD i []) big) ls.length).length ≤ cap) :
    Calls Tryz.prog 54 #[.pointer (some ⟨gE, 0, none⟩), v, .int .i64 (sys : Int)] w (RetE gE gb gB gD cap big bs (accB (kindB 3 sys big ++ num32 ls.length big) (fun i => num32 (ls.getD i []).length big ++ ptsForm (ls.getD i []) big) ls.length) w) := by
  obtain ⟨g, c, rfl, h1, h2, h3⟩ := rings_of hv ho
  rw [← prefB_kind] at hroom ⊢
  exact (writePg_c gE gb gB gD cap big bs sys hs sys rfl ls h40 hns hbs g c w h h1 h2 h3 (by rw [accB_front, List.length_append]; exact hroom)).mono fun e w' ⟨q1, q2, q3⟩ => ⟨q1, by rw [accB_front] at q2; exact q2, q3⟩

theorem item1 (acc : List Nat) (x y : Nat) (hx : x < 2 ^ 64) (hy : y < 2 ^ 64) (w : World) (h : EncW w gE gb gB gD cap big acc) (hroom : acc.length + (headB 1 0 big ++ ptsForm [(x, y)] big).length ≤ cap) :
    Calls Tryz.prog 37 #[.pointer (some ⟨gE, 0, none⟩), .iface 88 (.agg #[.float .f64 x, .float .f64 y]), .int .i64 0] w (RetE gE gb gB gD cap big acc (headB 1 0 big ++ ptsForm [(x, y)] big) w) := by
  rw [head_kind, List.append_assoc] at hroom ⊢
  rw [List.length_append] at hroom
  exact enc_Point gE gb gB gD cap big acc _ 0 x y w h (by simp at hroom; omega) fun w' he _ => wr1 _ x y hx hy 0 (by decide) w' he (by rw [List.length_append]; omega)
theorem item2 (acc : List Nat) (ps : List (Nat × Nat)) (h300 : ps.length ≤ 300) (hb : Bits ps) (lo hi : Nat) (v : Value) (w : World) (hv : PtsB lo hi w v ps) (hle : hi ≤ w.heap.size) (ho : OffG [gb] gB gD lo hi) (h : EncW w gE gb gB gD cap big acc) (hroom : acc.length + (headB 2 0 big ++ num32 ps.length big ++ ptsForm ps big).length ≤ cap) :
    Calls Tryz.prog 37 #[.pointer (some ⟨gE, 0, none⟩), .iface 91 v, .int .i64 0] w (RetE gE gb gB gD cap big acc (headB 2 0 big ++ num32 ps.length big ++ ptsForm ps big) w) := by
  rw [head_kind, List.append_assoc, List.append_assoc] at hroom ⊢
  rw [List.length_append] at hroom
  have hv' := hv
  obtain ⟨g, c, rfl, _⟩ := pts_slice hv
  refine enc_LineString gE gb gB gD cap big acc _ 0 g _ c w h (by simp at hroom; omega) fun w' he kx => ?_
  have := wr2 (acc ++ [headO big]) ps h300 hb 0 (by decide) lo hi _ w' (hv'.keep (kx.agree hle ho)) ho he (by rw [List.append_assoc, List.length_append]; omega)
  rwa [List.append_assoc] at this
theorem item3 (acc : List Nat) (ls : List (List (Nat × Nat))) (h40 : ls.length ≤ 40) (hns : ∀ l ∈ ls, l.length ≤ 300) (hbs : ∀ l ∈ ls, Bits l) (lo hi : Nat) (v : Value) (w : World) (hv : ListsB ls lo hi w v) (hle : hi ≤ w.heap.size) (ho : OffG [gb] gB gD lo hi) (h : EncW w gE gb gB gD cap big acc)
    (hroom : acc.length + (accB (headB 3 0 big ++ num32 ls.length big) (fun i => num32 (ls.getD i []).length big ++ ptsForm (ls.getD i []) big) ls.length).length ≤ cap) :
    Calls Tryz.prog 37 #[.pointer (some ⟨gE, 0, none⟩), .iface 93 v, .int .i64 0] w (RetE gE gb gB gD cap big acc (accB (headB 3 0 big ++ num32 ls.length big) (fun i => num32 (ls.getD i []).length big ++ ptsForm (ls.getD i []) big) ls.length) w) := by
  rw [head_kind, List.append_assoc, accB_front] at hroom ⊢
  rw [List.length_append] at hroom
  have hv' := hv
  obtain ⟨g, c, rfl, _⟩ := rings_of hv ho
  exact enc_Polygon gE gb gB gD cap big acc _ 0 g _ c w h (by simp at hroom; omega) fun w' he kx => wr3 (acc ++ [headO big]) ls h40 hns hbs 0 (by decide) lo hi _ w' (RowB.keep (keep_list ls) hv' (kx.agree hle ho) kx.size) ho he (by rw [List.length_append]; omega)

theorem wr4 (bs : List Nat) (ps : List (Nat × Nat)) (h300 : ps.length ≤ 300) (hb : Bits ps) (sys : Nat) (hs : sys ≤ 999999) (lo hi : Nat) (v : Value) (w : World) (hv : PtsB lo hi w v ps) (ho : OffG [gb] gB gD lo hi) (h : EncW w gE gb gB gD cap big bs)
    (hroom : bs.length + (accB (kindB 4 sys big ++ num32 ps.length big) (fun i => headB 1 0 big ++ ptsForm [ps.getD i (0, 0)] big) ps.length).length ≤ cap) :
    Calls Tryz.prog 51 #[.pointer (some ⟨gE, 0, none⟩), v, .int .i64 (sys : Int)] w (RetE gE gb gB gD cap big bs (accB (kindB 4 sys big ++ num32 ps.length big) (fun i => headB 1 0 big ++ ptsForm [ps.getD i (0, 0)] big) ps.length) w) := by
  obtain ⟨g, c, rfl, h1, h2, h3, hpt⟩ := pts_slice hv
  rw [← prefB_kind] at hroom ⊢
  refine writeMP_c gE gb gB gD cap big bs sys hs sys rfl ps h300 _ g c w h h3 (ho.not h1 h2) hpt hroom fun i hi w' acc he hr kx => ?_
  have e : ps.getD i (0, 0) = ps[i]'hi := by rw [List.getD_eq_getElem?_getD, List.getElem?_eq_getElem hi]; rfl
  rw [e] at hr ⊢
  exact item1 acc _ _ (hb i hi).1 (hb i hi).2 w' he hr
theorem wr5 (bs : List Nat) (ls : List (List (Nat × Nat))) (h40 : ls.length ≤ 40) (hns : ∀ l ∈ ls, l.length ≤ 300) (hbs : ∀ l ∈ ls, Bits l) (sys : Nat) (hs : sys ≤ 999999) (lo hi : Nat) (v : Value) (w : World) (hv : ListsB ls lo hi w v) (ho : OffG [gb] gB gD lo hi) (h : EncW w gE gb gB gD cap big bs)
    (hroom : bs.length + (accB (kindB 5 sys big ++ num32 ls.length big) (fun i => headB 2 0 big ++ num32 (ls.getD i []).length big ++ ptsForm (ls.getD i []) big) ls.length).length ≤ cap) :
    Calls Tryz.prog 53 #[.pointer (some ⟨gE, 0, none⟩), v, .int .i64 (sys : Int)] w (RetE gE gb gB gD cap big bs (accB (kindB 5 sys big ++ num32 ls.length big) (fun i => headB 2 0 big ++ num32 (ls.getD i []).length big ++ ptsForm (ls.getD i []) big) ls.length) w) := by
  obtain ⟨g, c, xs, rfl, h1, h2, h3, h4, h5⟩ := row_pick hv
  rw [← prefB_kind] at hroom ⊢
  refine writeMLS_c gE gb gB gD cap big bs sys hs sys rfl ls.length h40 xs _ g c w h h3 (ho.not h1 h2) h4 hroom fun i hi w' acc he hr kx => ?_
  obtain ⟨l, hh, hx, q1, q2, q3⟩ := h5 i hi
  exact item2 acc _ (hns _ (mem_getD' hi)) (hbs _ (mem_getD' hi)) l hh _ w' (PtsB.keep hx (kx.agree q3 (ho.mono q1 q2))) (Nat.le_trans q3 kx.size) (ho.mono q1 q2) he hr
theorem wr6 (bs : List Nat) (qs : List Sh) (f : Nat → List Nat) (h40 : qs.length ≤ 40) (hq : ∀ i, i < qs.length → (qs.getD i dsh).lists.length ≤ 40 ∧ (∀ l ∈ (qs.getD i dsh).lists, l.length ≤ 300) ∧ (∀ l ∈ (qs.getD i dsh).lists, Bits l) ∧ f i = accB (headB 3 0 big ++ num32 (qs.getD i dsh).lists.length big) (fun j => num32 ((qs.getD i dsh).lists.getD j []).length big ++ ptsForm ((qs.getD i dsh).lists.getD j []) big) (qs.getD i dsh).lists.length)
    (sys : Nat) (hs : sys ≤ 999999) (lo hi : Nat) (v : Value) (w : World) (hv : RowB (PolyE qs) lo hi w v qs.length) (ho : OffG [gb] gB gD lo hi) (h : EncW w gE gb gB gD cap big bs) (hroom : bs.length + (accB (kindB 6 sys big ++ num32 qs.length big) f qs.length).length ≤ cap) :
    Calls Tryz.prog 55 #[.pointer (some ⟨gE, 0, none⟩), v, .int .i64 (sys : Int)] w (RetE gE gb gB gD cap big bs (accB (kindB 6 sys big ++ num32 qs.length big) f qs.length) w) := by
  obtain ⟨g, c, xs, rfl, h1, h2, h3, h4, h5⟩ := row_pick hv
  rw [← prefB_kind] at hroom ⊢
  refine writeMPg_c gE gb gB gD cap big bs sys hs sys rfl qs.length h40 xs _ g c w h h3 (ho.not h1 h2) h4 hroom fun i hi w' acc he hr kx => ?_
  obtain ⟨l, hh, hx, q1, q2, q3⟩ := h5 i hi
  obtain ⟨p1, p2, p3, p4⟩ := hq i hi
  rw [p4] at hr ⊢
  exact item3 acc _ p1 p2 p3 l hh _ w' (RowB.keep (keep_list _) hx (kx.agree q3 (ho.mono q1 q2)) kx.size) (Nat.le_trans q3 kx.size) (ho.mono q1 q2) he hr
end

/-- what Encode does with any geometry, so many levels deep -/
def EncAt (d gE gb gB : Nat) (gD : Nat × Nat) (cap : Nat) (big : Bool) : Prop := ∀ (s : Sh) (lo hi : Nat) (v : Value) (bs : List Nat) (w : World), GeoB d lo hi w v s → cntOk d s = true → Small d s → BitsSh d s → hi ≤ w.heap.size → OffG [gb] gB gD lo hi → EncW w gE gb gB gD cap big bs → bs.length + (formSh d s 0 big false).length ≤ cap →
  Calls Tryz.prog 37 #[.pointer (some ⟨gE, 0, none⟩), v, .int .i64 0] w (RetE gE gb gB gD cap big bs (formSh d s 0 big false) w)
theorem wr7 {gE gb gB : Nat} {gD : Nat × Nat} {cap : Nat} {big : Bool} (d : Nat) (ih : EncAt d gE gb gB gD cap big) (bs : List Nat) (qs : List Sh) (h40 : qs.length ≤ 40) (hq : ∀ i, i < qs.length → cntOk d (qs.getD i dsh) = true ∧ Small d (qs.getD i dsh) ∧ BitsSh d (qs.getD i dsh))
    (sys : Nat) (hs : sys ≤ 999999) (lo hi : Nat) (v : Value) (w : World) (hv : RowB (fun i l h w x => GeoB d l h w x (qs.getD i dsh)) lo hi w v qs.length) (ho : OffG [gb] gB gD lo hi) (h : EncW w gE gb gB gD cap big bs) (hroom : bs.length + (accB (kindB 7 sys big ++ num32 qs.length big) (fun i => formSh d (qs.getD i dsh) 0 big false) qs.length).length ≤ cap) :
    Calls Tryz.prog 56 #[.pointer (some ⟨gE, 0, none⟩), v, .int .i64 (sys : Int)] w (RetE gE gb gB gD cap big bs (accB (kindB 7 sys big ++ num32 qs.length big) (fun i => formSh d (qs.getD i dsh) 0 big false) qs.length) w) := by
  obtain ⟨g, c, xs, rfl, h1, h2, h3, h4, h5⟩ := row_pick hv
  rw [← prefB_kind] at hroom ⊢
  refine writeCol_c gE gb gB gD cap big bs sys hs sys rfl qs.length h40 xs _ g c w h h3 (ho.not h1 h2) h4 hroom fun i hi w' acc he hr kx => ?_
  obtain ⟨l, hh, hx, q1, q2, q3⟩ := h5 i hi
  obtain ⟨p1, p2, p3⟩ := hq i hi
  exact ih _ l hh _ acc w' (GeoB.keep hx (kx.agree q3 (ho.mono q1 q2)) kx.size) p1 p2 p3 (Nat.le_trans q3 kx.size) (ho.mono q1 q2) he hr
end Go.Proofs.YtobdohhabgnjiaaGreatDoor

set_option linter.all false
namespace Go.Proofs.YtobdohhabgnjiaaGreatDoor
open PubFl Go.RowKit

attribute [local go_sem] cell_ext frozen_ext ext_setCell cell_store size_ext_eq lt_p0 lt_p1 lt_p2 lt_p3 lt_p4 lt_p5 lt_p6 lt_p7 lt_p8 lt_p9 lt_p10 lt_p11 lt_p12 lt_p13 lt_p14 lt_p15 lt_p16 lt_p17 lt_p18 lt_p19 lt_p20 lt_p21 lt_p22 lt_p23 lt_p24 lt_p25 lt_p26 lt_p27 lt_p28 lt_p29 lt_p30 lt_p31 lt_p32 lt_q1 lt_q2 lt_q3 lt_q4 lt_q5 lt_q6 lt_q7 lt_q8 lt_q9 lt_q10 lt_q11 lt_q12 lt_q13 lt_q14 lt_q15 lt_q16 lt_q17 lt_q18 lt_q19 lt_q20 lt_q21 lt_q22 lt_q23 lt_q24 lt_q25 lt_q26 lt_q27 lt_q28 lt_q29 lt_q30 lt_q31 lt_q32 run_fop run_store_float
attribute [local go_sem high] cmp_eql cmp_neq cmp_lss cmp_leq cmp_gtr cmp_geq

theorem keep_geo2 (d : Nat) (qs : List Sh) : KeepE (fun i l h w x => GeoB d l h w x (qs.getD i dsh)) := fun _ _ _ _ _ _ a hs e => GeoB.keep e a hs
theorem same_big (big : Bool) : (!(big == false)) = big := by cases big <;> rfl
/-- what is said of a shape's parts -/
theorem parts_ok {d : Nat} {s : Sh} (hok : cntOk (d + 1) s = true) (hsm : Small (d + 1) s) (hbits : BitsSh (d + 1) s) (i : Nat) (hi : i < s.parts.length) : cntOk d (s.parts.getD i dsh) = true ∧ Small d (s.parts.getD i dsh) ∧ BitsSh d (s.parts.getD i dsh) :=
  ⟨((cntOk_parts hok).2.1 _ (mem_getD' hi)).1, hsm.2 _ (mem_getD' hi), hbits.2 _ (mem_getD' hi)⟩
theorem polys_ok {d : Nat} {s : Sh} (hK : s.kind = 6) (hok : cntOk (d + 1) s = true) (hsm : Small (d + 1) s) (hbits : BitsSh (d + 1) s) (big : Bool) (i : Nat) (hi : i < s.parts.length) :
    (s.parts.getD i dsh).lists.length ≤ 40 ∧ (∀ l ∈ (s.parts.getD i dsh).lists, l.length ≤ 300) ∧ (∀ l ∈ (s.parts.getD i dsh).lists, Bits l) ∧ formSh d (s.parts.getD i dsh) 0 big false = accB (headB 3 0 big ++ num32 (s.parts.getD i dsh).lists.length big) (fun j => num32 ((s.parts.getD i dsh).lists.getD j []).length big ++ ptsForm ((s.parts.getD i dsh).lists.getD j []) big) (s.parts.getD i dsh).lists.length := by
  obtain ⟨p1, p2, p3⟩ := parts_ok hok hsm hbits i hi
  have hk := ((cntOk_parts hok).2.1 _ (mem_getD' (z := dsh) hi)).2
  have hk3 : (s.parts.getD i dsh).kind = 3 := by
    unfold partB at hk
    rw [hK] at hk
    simpa using hk
  cases d with
  | zero => cases p1
  | succ d => exact ⟨(shHead_spec (cntOk_parts p1).1).2.2.1, p2.1, p3.1, formSh_3 hk3 0 big false⟩

theorem encAt_succ {gE gb gB : Nat} {gD : Nat × Nat} {cap : Nat} {big : Bool} (d : Nat) (ih : EncAt d gE gb gB gD cap big) : EncAt (d + 1) gE gb gB gD cap big := by
  intro s lo hi v bs w hg hok hsm hbits hle ho h hroom
  obtain ⟨_, _, n3, n4⟩ := shHead_spec (cntOk_parts hok).1
  rcases hg with hg | hg | hg | hg | hg | hg | hg
  · obtain ⟨hK, x, y, hl, hp, rfl⟩ := hg
    have hgd : s.lists.getD 0 [] = [(x, y)] := by rw [hl]; rfl
    rw [formSh_1 hK, hgd, head_kind, List.append_assoc] at hroom ⊢
    rw [List.length_append] at hroom
    obtain ⟨hx, hy⟩ := (hbits.1 [(x, y)] (by rw [hl]; simp)) 0 (by simp)
    exact enc_Point gE gb gB gD cap big bs _ 0 x y w h (by simp at hroom; omega) fun w' he kx => wr1 _ x y hx hy 0 (by decide) w' he (by rw [List.length_append]; omega)
  · obtain ⟨hK, ps, u, hl, hp, rfl, hu⟩ := hg
    have hgd : s.lists.getD 0 [] = ps := by rw [hl]; rfl
    rw [formSh_2 hK, hgd, head_kind, List.append_assoc, List.append_assoc] at hroom ⊢
    rw [List.length_append] at hroom
    have hu' := hu
    obtain ⟨g, c, rfl, _⟩ := pts_slice hu
    exact enc_LineString gE gb gB gD cap big bs _ 0 g _ c w h (by simp at hroom; omega) fun w' he kx => (by have := wr2 (bs ++ [headO big]) ps (hsm.1 _ (by rw [hl]; simp)) (hbits.1 _ (by rw [hl]; simp)) 0 (by decide) lo hi _ w' (hu'.keep (kx.agree hle ho)) ho he (by rw [List.append_assoc, List.length_append]; omega); rwa [List.append_assoc] at this)
  · obtain ⟨hK, u, hp, rfl, hu⟩ := hg
    rw [formSh_3 hK, head_kind, List.append_assoc, accB_front] at hroom ⊢
    rw [List.length_append] at hroom
    have hu' := hu
    obtain ⟨g, c, _, rfl, _⟩ := row_pick hu
    exact enc_Polygon gE gb gB gD cap big bs _ 0 g _ c w h (by simp at hroom; omega) fun w' he kx => wr3 (bs ++ [headO big]) s.lists n3 hsm.1 hbits.1 0 (by decide) lo hi _ w' (RowB.keep (keep_list _) hu' (kx.agree hle ho) kx.size) ho he (by rw [List.length_append]; omega)
  · obtain ⟨hK, ps, u, hl, hp, rfl, hu⟩ := hg
    have hgd : s.lists.getD 0 [] = ps := by rw [hl]; rfl
    rw [formSh_4 hK, hgd, head_kind, List.append_assoc, accB_front, same_big] at hroom ⊢
    rw [List.length_append] at hroom
    have hu' := hu
    obtain ⟨g, c, rfl, _⟩ := pts_slice hu
    exact enc_MultiPoint gE gb gB gD cap big bs _ 0 g _ c w h (by simp at hroom; omega) fun w' he kx => wr4 (bs ++ [headO big]) ps (hsm.1 _ (by rw [hl]; simp)) (hbits.1 _ (by rw [hl]; simp)) 0 (by decide) lo hi _ w' (hu'.keep (kx.agree hle ho)) ho he (by rw [List.length_append]; omega)
  · obtain ⟨hK, u, hp, rfl, hu⟩ := hg
    rw [formSh_5 hK, head_kind, List.append_assoc, accB_front, same_big] at hroom ⊢
    rw [List.length_append] at hroom
    have hu' := hu
    obtain ⟨g, c, _, rfl, _⟩ := row_pick hu
    exact enc_MultiLineString gE gb gB gD cap big bs _ 0 g _ c w h (by simp at hroom; omega) fun w' he kx => wr5 (bs ++ [headO big]) s.lists n3 hsm.1 hbits.1 0 (by decide) lo hi _ w' (RowB.keep (keep_list _) hu' (kx.agree hle ho) kx.size) ho he (by rw [List.length_append]; omega)
  · obtain ⟨hK, u, hl, rfl, hu⟩ := hg
    rw [formSh_6 hK, head_kind, List.append_assoc, accB_front, same_big] at hroom ⊢
    rw [List.length_append] at hroom
    have hu' := hu
    obtain ⟨g, c, _, rfl, _⟩ := row_pick hu
    exact enc_MultiPolygon gE gb gB gD cap big bs _ 0 g _ c w h (by simp at hroom; omega) fun w' he kx => wr6 (bs ++ [headO big]) s.parts _ n4 (polys_ok hK hok hsm hbits big) 0 (by decide) lo hi _ w' (RowB.keep (keep_poly _) hu' (kx.agree hle ho) kx.size) ho he (by rw [List.length_append]; omega)
  · obtain ⟨hK, u, hl, rfl, hu⟩ := hg
    rw [formSh_7 hK, head_kind, List.append_assoc, accB_front, same_big] at hroom ⊢
    rw [List.length_append] at hroom
    have hu' := hu
    obtain ⟨g, c, _, rfl, _⟩ := row_pick hu
    exact enc_Collection gE gb gB gD cap big bs _ 0 g _ c w h (by simp at hroom; omega) fun w' he kx => wr7 d ih (bs ++ [headO big]) s.parts n4 (parts_ok hok hsm hbits) 0 (by decide) lo hi _ w' (RowB.keep (keep_geo2 d s.parts) hu' (kx.agree hle ho) kx.size) ho he (by rw [List.length_append]; omega)
theorem encAt (gE gb gB : Nat) (gD : Nat × Nat) (cap : Nat) (big : Bool) : ∀ d, EncAt d gE gb gB gD cap big
  | 0 => fun _ _ _ _ _ _ h => h.elim
  | d + 1 => encAt_succ d (encAt gE gb gB gD cap big d)

/-- the first call: the encoder has no bytes of its own yet -/
theorem encN_c (gE gB : Nat) (gD : Nat × Nat) (cap : Nat) (big : Bool) (d : Nat) (s : Sh) (sys : Nat) (hsys : sys ≤ 999999) (lo hi : Nat) (v : Value) (bs : List Nat) (w : World) (hg : GeoB (d + 1) lo hi w v s) (hok : cntOk (d + 1) s = true) (hsm : Small (d + 1) s) (hbits : BitsSh (d + 1) s) (hle : hi ≤ w.heap.size) (ho : OffG [gE] gB gD lo hi)
    (h : EncN w gE gB gD cap big bs) (hroom : bs.length + (formSh (d + 1) s sys big false).length ≤ cap) :
    Calls Tryz.prog 37 #[.pointer (some ⟨gE, 0, none⟩), v, .int .i64 (sys : Int)] w (RetN gE gB gD cap big bs (formSh (d + 1) s sys big false) w) := by
  have ih := fun gb => encAt gE gb gB gD cap big d
  have ho2 : ∀ gb, w.heap.size ≤ gb → OffG [gb] gB gD lo hi := fun gb hgb => ⟨fun b hb => by simp at hb; omega, ho.offB, ho.offD, ho.le⟩
  obtain ⟨_, _, n3, n4⟩ := shHead_spec (cntOk_parts hok).1
  rcases hg with hg | hg | hg | hg | hg | hg | hg
  · obtain ⟨hK, x, y, hl, hp, rfl⟩ := hg
    have hgd : s.lists.getD 0 [] = [(x, y)] := by rw [hl]; rfl
    rw [formSh_1 hK, hgd, head_kind, List.append_assoc] at hroom ⊢
    rw [List.length_append] at hroom
    obtain ⟨hx, hy⟩ := (hbits.1 [(x, y)] (by rw [hl]; simp)) 0 (by simp)
    exact encN_Point gE gB gD cap big bs _ sys x y w h (by simp at hroom; omega) fun gb w' hgb he kx => wr1 _ x y hx hy sys hsys w' he (by rw [List.length_append]; omega)
  · obtain ⟨hK, ps, u, hl, hp, rfl, hu⟩ := hg
    have hgd : s.lists.getD 0 [] = ps := by rw [hl]; rfl
    rw [formSh_2 hK, hgd, head_kind, List.append_assoc, List.append_assoc] at hroom ⊢
    rw [List.length_append] at hroom
    have hu' := hu
    obtain ⟨g, c, rfl, _⟩ := pts_slice hu
    exact encN_LineString gE gB gD cap big bs _ sys g _ c w h (by simp at hroom; omega) fun gb w' hgb he kx => (by have := wr2 (bs ++ [headO big]) ps (hsm.1 _ (by rw [hl]; simp)) (hbits.1 _ (by rw [hl]; simp)) sys hsys lo hi _ w' (hu'.keep (kx.agree hle ho)) (ho2 _ hgb) he (by rw [List.append_assoc, List.length_append]; omega); rwa [List.append_assoc] at this)
  · obtain ⟨hK, u, hp, rfl, hu⟩ := hg
    rw [formSh_3 hK, head_kind, List.append_assoc, accB_front] at hroom ⊢
    rw [List.length_append] at hroom
    have hu' := hu
    obtain ⟨g, c, _, rfl, _⟩ := row_pick hu
    exact encN_Polygon gE gB gD cap big bs _ sys g _ c w h (by simp at hroom; omega) fun gb w' hgb he kx => wr3 (bs ++ [headO big]) s.lists n3 hsm.1 hbits.1 sys hsys lo hi _ w' (RowB.keep (keep_list _) hu' (kx.agree hle ho) kx.size) (ho2 _ hgb) he (by rw [List.length_append]; omega)
  · obtain ⟨hK, ps, u, hl, hp, rfl, hu⟩ := hg
    have hgd : s.lists.getD 0 [] = ps := by rw [hl]; rfl
    rw [formSh_4 hK, hgd, head_kind, List.append_assoc, accB_front, same_big] at hroom ⊢
    rw [List.length_append] at hroom
    have hu' := hu
    obtain ⟨g, c, rfl, _⟩ := pts_slice hu
    exact encN_MultiPoint gE gB gD cap big bs _ sys g _ c w h (by simp at hroom; omega) fun gb w' hgb he kx => wr4 (bs ++ [headO big]) ps (hsm.1 _ (by rw [hl]; simp)) (hbits.1 _ (by rw [hl]; simp)) sys hsys lo hi _ w' (hu'.keep (kx.agree hle ho)) (ho2 _ hgb) he (by rw [List.length_append]; omega)
  · obtain ⟨hK, u, hp, rfl, hu⟩ := hg
    rw [formSh_5 hK, head_kind, List.append_assoc, accB_front, same_big] at hroom ⊢
    rw [List.length_append] at hroom
    have hu' := hu
    obtain ⟨g, c, _, rfl, _⟩ := row_pick hu
    exact encN_MultiLineString gE gB gD cap big bs _ sys g _ c w h (by simp at hroom; omega) fun gb w' hgb he kx => wr5 (bs ++ [headO big]) s.lists n3 hsm.1 hbits.1 sys hsys lo hi _ w' (RowB.keep (keep_list _) hu' (kx.agree hle ho) kx.size) (ho2 _ hgb) he (by rw [List.length_append]; omega)
  · obtain ⟨hK, u, hl, rfl, hu⟩ := hg
    rw [formSh_6 hK, head_kind, List.append_assoc, accB_front, same_big] at hroom ⊢
    rw [List.length_append] at hroom
    have hu' := hu
    obtain ⟨g, c, _, rfl, _⟩ := row_pick hu
    exact encN_MultiPolygon gE gB gD cap big bs _ sys g _ c w h (by simp at hroom; omega) fun gb w' hgb he kx => wr6 (bs ++ [headO big]) s.parts _ n4 (polys_ok hK hok hsm hbits big) sys hsys lo hi _ w' (RowB.keep (keep_poly _) hu' (kx.agree hle ho) kx.size) (ho2 _ hgb) he (by rw [List.length_append]; omega)
  · obtain ⟨hK, u, hl, rfl, hu⟩ := hg
    rw [formSh_7 hK, head_kind, List.append_assoc, accB_front, same_big] at hroom ⊢
    rw [List.length_append] at hroom
    have hu' := hu
    obtain ⟨g, c, _, rfl, _⟩ := row_pick hu
    exact encN_Collection gE gB gD cap big bs _ sys g _ c w h (by simp at hroom; omega) fun gb w' hgb he kx => wr7 d (ih _) (bs ++ [headO big]) s.parts n4 (parts_ok hok hsm hbits) sys hsys lo hi _ w' (RowB.keep (keep_geo2 d s.parts) hu' (kx.agree hle ho) kx.size) (ho2 _ hgb) he (by rw [List.length_append]; omega)
end Go.Proofs.YtobdohhabgnjiaaGreatDoor

set_option linter.all false
namespace Go.Proofs.YtobdohhabgnjiaaGreatDoor
open PubFl Go.RowKit

attribute [local go_sem] cell_ext frozen_ext ext_setCell cell_store size_ext_eq lt_p0 lt_p1 lt_p2 lt_p3 lt_p4 lt_p5 lt_p6 lt_p7 lt_p8 lt_p9 lt_p10 lt_p11 lt_p12 lt_p13 lt_p14 lt_p15 lt_p16 lt_p17 lt_p18 lt_p19 lt_p20 lt_p21 lt_p22 lt_p23 lt_p24 lt_p25 lt_p26 lt_p27 lt_p28 lt_p29 lt_p30 lt_p31 lt_p32 lt_q1 lt_q2 lt_q3 lt_q4 lt_q5 lt_q6 lt_q7 lt_q8 lt_q9 lt_q10 lt_q11 lt_q12 lt_q13 lt_q14 lt_q15 lt_q16 lt_q17 lt_q18 lt_q19 lt_q20 lt_q21 lt_q22 lt_q23 lt_q24 lt_q25 lt_q26 lt_q27 lt_q28 lt_q29 lt_q30 lt_q31 lt_q32 run_fop run_store_float
attribute [local go_sem high] cmp_eql cmp_neq cmp_lss cmp_leq cmp_gtr cmp_geq

def sumN (g : Nat → Nat) : Nat → Nat
  | 0 => 0
  | k + 1 => sumN g k + g k
theorem accB_length (acc : List Nat) (f : Nat → List Nat) : ∀ k, (accB acc f k).length = acc.length + sumN (fun i => (f i).length) k
  | 0 => rfl
  | k + 1 => by
    show (accB acc f k ++ f k).length = acc.length + (sumN (fun i => (f i).length) k + (f k).length)
    rw [List.length_append, accB_length acc f k]; omega
theorem sumN_le {g : Nat → Nat} {B : Nat} : ∀ {k : Nat}, (∀ i, i < k → g i ≤ B) → sumN g k ≤ k * B
  | 0, _ => by simp [sumN]
  | k + 1, h => by
    have h1 := sumN_le (k := k) (fun i hi => h i (by omega))
    have h2 := h k (by omega)
    show sumN g k + g k ≤ (k + 1) * B
    rw [Nat.succ_mul]; omega
theorem sumN_congr {g g' : Nat → Nat} : ∀ {k : Nat}, (∀ i, i < k → g i = g' i) → sumN g k = sumN g' k
  | 0, _ => rfl
  | k + 1, h => by
    show sumN g k + g k = sumN g' k + g' k
    rw [sumN_congr (k := k) fun i hi => h i (by omega), h k (by omega)]
def exB (ew : Bool) : Nat := if ew then 4 else 0

set_option maxRecDepth 100000 in
theorem gl_Point (x y : Nat) (ew : Bool) (w : World) : Calls Tryz.prog 46 #[.iface 88 (.agg #[.float .f64 x, .float .f64 y]), .bool ew] w (Ret w (.int .i64 ((21 + exB ew : Nat) : Int))) := by
  have t0 := tas_Point_Point x y
  cases ew
  · go_enter Tryz.func46, Tryz.ntmps46
    go_wp2_with fail
    go_ret
    exact Ret.mk (by simp [exB]; try omega) (by repeat (first | (with_reducible exact Kp.refl _) | (with_reducible assumption) | (with_reducible apply Kp.ext) | (with_reducible apply Kp.alloc) | (with_reducible apply Kp.drew) | (with_reducible apply Kp.drewN) | (with_reducible refine Kp.setCell ?_ (by first | (dsimp only; omega) | (simp; omega) | (simp; done) | (simp [size_ext_eq]; omega)) _)))
  · go_enter Tryz.func46, Tryz.ntmps46
    go_wp2_with fail
    go_ret
    exact Ret.mk (by simp [exB]; try omega) (by repeat (first | (with_reducible exact Kp.refl _) | (with_reducible assumption) | (with_reducible apply Kp.ext) | (with_reducible apply Kp.alloc) | (with_reducible apply Kp.drew) | (with_reducible apply Kp.drewN) | (with_reducible refine Kp.setCell ?_ (by first | (dsimp only; omega) | (simp; omega) | (simp; done) | (simp [size_ext_eq]; omega)) _)))

set_option maxRecDepth 100000 in
theorem gl_MultiPoint (g n c : Nat) (hn : n ≤ 300) (ew : Bool) (w : World) : Calls Tryz.prog 46 #[.iface 95 (.slice (some ⟨g, 0, none⟩) n c), .bool ew] w (Ret w (.int .i64 ((9 + 21 * n + exB ew : Nat) : Int))) := by
  have t0 := tas_MultiPoint_Point (.slice (some ⟨g, 0, none⟩) n c)
  have t1 := tas_MultiPoint_MultiPoint (.slice (some ⟨g, 0, none⟩) n c)
  cases ew
  · go_enter Tryz.func46, Tryz.ntmps46
    go_wp2_with fail
    go_ret
    exact Ret.mk (by simp [exB]; try omega) (by repeat (first | (with_reducible exact Kp.refl _) | (with_reducible assumption) | (with_reducible apply Kp.ext) | (with_reducible apply Kp.alloc) | (with_reducible apply Kp.drew) | (with_reducible apply Kp.drewN) | (with_reducible refine Kp.setCell ?_ (by first | (dsimp only; omega) | (simp; omega) | (simp; done) | (simp [size_ext_eq]; omega)) _)))
  · go_enter Tryz.func46, Tryz.ntmps46
    go_wp2_with fail
    go_ret
    exact Ret.mk (by simp [exB]; try omega) (by repeat (first | (with_reducible exact Kp.refl _) | (with_reducible assumption) | (with_reducible apply Kp.ext) | (with_reducible apply Kp.alloc) | (with_reducible apply Kp.drew) | (with_reducible apply Kp.drewN) | (with_reducible refine Kp.setCell ?_ (by first | (dsimp only; omega) | (simp; omega) | (simp; done) | (simp [size_ext_eq]; omega)) _)))

set_option maxRecDepth 100000 in
theorem gl_LineString (g n c : Nat) (hn : n ≤ 300) (ew : Bool) (w : World) : Calls Tryz.prog 46 #[.iface 91 (.slice (some ⟨g, 0, none⟩) n c), .bool ew] w (Ret w (.int .i64 ((9 + 16 * n + exB ew : Nat) : Int))) := by
  have t0 := tas_LineString_Point (.slice (some ⟨g, 0, none⟩) n c)
  have t1 := tas_LineString_MultiPoint (.slice (some ⟨g, 0, none⟩) n c)
  have t2 := tas_LineString_LineString (.slice (some ⟨g, 0, none⟩) n c)
  cases ew
  · go_enter Tryz.func46, Tryz.ntmps46
    go_wp2_with fail
    go_ret
    exact Ret.mk (by simp [exB]; try omega) (by repeat (first | (with_reducible exact Kp.refl _) | (with_reducible assumption) | (with_reducible apply Kp.ext) | (with_reducible apply Kp.alloc) | (with_reducible apply Kp.drew) | (with_reducible apply Kp.drewN) | (with_reducible refine Kp.setCell ?_ (by first | (dsimp only; omega) | (simp; omega) | (simp; done) | (simp [size_ext_eq]; omega)) _)))
  · go_enter Tryz.func46, Tryz.ntmps46
    go_wp2_with fail
    go_ret
    exact Ret.mk (by simp [exB]; try omega) (by repeat (first | (with_reducible exact Kp.refl _) | (with_reducible assumption) | (with_reducible apply Kp.ext) | (with_reducible apply Kp.alloc) | (with_reducible apply Kp.drew) | (with_reducible apply Kp.drewN) | (with_reducible refine Kp.setCell ?_ (by first | (dsimp only; omega) | (simp; omega) | (simp; done) | (simp [size_ext_eq]; omega)) _)))

set_option maxRecDepth 100000 in
set_option maxHeartbeats 1000000 in
theorem gl_MultiLineString (g c N : Nat) (hN : N ≤ 40) (ln : Nat → Nat) (hln : ∀ i, i < N → ln i ≤ 300) (ew : Bool) (w : World) (hg : g < w.heap.size) (hcell : ∀ i, i < N → ∃ a c', w.cell? ⟨g, i, none⟩ = some (.slice a (ln i) c')) :
    Calls Tryz.prog 46 #[.iface 97 (.slice (some ⟨g, 0, none⟩) N c), .bool ew] w (Ret w (.int .i64 ((9 + sumN (fun i => 9 + 16 * ln i) N + exB ew : Nat) : Int))) := by
  have t0 := tas_MultiLineString_Point (.slice (some ⟨g, 0, none⟩) N c)
  have t1 := tas_MultiLineString_MultiPoint (.slice (some ⟨g, 0, none⟩) N c)
  have t2 := tas_MultiLineString_LineString (.slice (some ⟨g, 0, none⟩) N c)
  have t3 := tas_MultiLineString_MultiLineString (.slice (some ⟨g, 0, none⟩) N c)
  have HL := Lib.hid hln
  have HC := Lib.hid hcell
  have HB := Lib.hid (show ∀ k, k ≤ N → sumN (fun i => 9 + 16 * ln i) k ≤ 40 * 5000 from fun k hk => by
    have := sumN_le (g := fun i => 9 + 16 * ln i) (B := 5000) (k := k) fun i hi => by have := hln i (by omega); omega
    omega)
  clear hln hcell
  cases ew
  · go_enter Tryz.func46, Tryz.ntmps46
    go_wp2_with fail
    go_loopw [10, 55] (fun ss si wr => ∃ k : Nat, k ≤ N ∧ ss = .int .i64 ((sumN (fun i => 9 + 16 * ln i) k : Nat) : Int) ∧ si = .int .i64 k ∧ Kp w wr) (fun _ si _ => N - (intOf si).toNat)
    case atStart => exact ⟨0, Nat.zero_le _, rfl, rfl, (by repeat (first | (with_reducible exact Kp.refl _) | (with_reducible assumption) | (with_reducible apply Kp.ext) | (with_reducible apply Kp.alloc) | (with_reducible apply Kp.drew) | (with_reducible apply Kp.drewN) | (with_reducible refine Kp.setCell ?_ (by first | (dsimp only; omega) | (simp; omega) | (simp; done) | (simp [size_ext_eq]; omega)) _)))⟩
    case round =>
      obtain ⟨k, hkn, rfl, rfl, hkp⟩ := hrel
      have hgr : g < wr.heap.size := Nat.lt_of_lt_of_le hg hkp.size
      have hb := HB.out k hkn
      by_cases hlt : k < N
      · obtain ⟨a, c', hc⟩ := HC.out k hlt
        have hc' := Kp.cell hkp hc hg
        have hl := HL.out k hlt
        have hst : sumN (fun i => 9 + 16 * ln i) (k + 1) = sumN (fun i => 9 + 16 * ln i) k + (9 + 16 * ln k) := rfl
        have Hst := Lib.hid hst
        generalize sumN (fun i => 9 + 16 * ln i) k = Z at *
        generalize ln k = R at *
        clear hst hc
        go_wp2_with fail
        go_roundw
        case rel => exact ⟨k + 1, by omega, by rw [Hst.out]; go_num, by go_num, (by repeat (first | (with_reducible exact Kp.refl _) | (with_reducible assumption) | (with_reducible apply Kp.ext) | (with_reducible apply Kp.alloc) | (with_reducible apply Kp.drew) | (with_reducible apply Kp.drewN) | (with_reducible refine Kp.setCell ?_ (by first | (dsimp only; omega) | (simp; omega) | (simp; done) | (simp [size_ext_eq]; omega)) _)))⟩
        case measure => simp [intOf]; omega
      · obtain rfl : k = N := by omega
        go_wp2_with fail
        go_ret
        exact Ret.mk (by simp [exB]; try omega) (by repeat (first | (with_reducible exact Kp.refl _) | (with_reducible assumption) | (with_reducible apply Kp.ext) | (with_reducible apply Kp.alloc) | (with_reducible apply Kp.drew) | (with_reducible apply Kp.drewN) | (with_reducible refine Kp.setCell ?_ (by first | (dsimp only; omega) | (simp; omega) | (simp; done) | (simp [size_ext_eq]; omega)) _)))
  · go_enter Tryz.func46, Tryz.ntmps46
    go_wp2_with fail
    go_loopw [10, 55] (fun ss si wr => ∃ k : Nat, k ≤ N ∧ ss = .int .i64 ((sumN (fun i => 9 + 16 * ln i) k : Nat) : Int) ∧ si = .int .i64 k ∧ Kp w wr) (fun _ si _ => N - (intOf si).toNat)
    case atStart => exact ⟨0, Nat.zero_le _, rfl, rfl, (by repeat (first | (with_reducible exact Kp.refl _) | (with_reducible assumption) | (with_reducible apply Kp.ext) | (with_reducible apply Kp.alloc) | (with_reducible apply Kp.drew) | (with_reducible apply Kp.drewN) | (with_reducible refine Kp.setCell ?_ (by first | (dsimp only; omega) | (simp; omega) | (simp; done) | (simp [size_ext_eq]; omega)) _)))⟩
    case round =>
      obtain ⟨k, hkn, rfl, rfl, hkp⟩ := hrel
      have hgr : g < wr.heap.size := Nat.lt_of_lt_of_le hg hkp.size
      have hb := HB.out k hkn
      by_cases hlt : k < N
      · obtain ⟨a, c', hc⟩ := HC.out k hlt
        have hc' := Kp.cell hkp hc hg
        have hl := HL.out k hlt
        have hst : sumN (fun i => 9 + 16 * ln i) (k + 1) = sumN (fun i => 9 + 16 * ln i) k + (9 + 16 * ln k) := rfl
        have Hst := Lib.hid hst
        generalize sumN (fun i => 9 + 16 * ln i) k = Z at *
        generalize ln k = R at *
        clear hst hc
        go_wp2_with fail
        go_roundw
        case rel => exact ⟨k + 1, by omega, by rw [Hst.out]; go_num, by go_num, (by repeat (first | (with_reducible exact Kp.refl _) | (with_reducible assumption) | (with_reducible apply Kp.ext) | (with_reducible apply Kp.alloc) | (with_reducible apply Kp.drew) | (with_reducible apply Kp.drewN) | (with_reducible refine Kp.setCell ?_ (by first | (dsimp only; omega) | (simp; omega) | (simp; done) | (simp [size_ext_eq]; omega)) _)))⟩
        case measure => simp [intOf]; omega
      · obtain rfl : k = N := by omega
        go_wp2_with fail
        go_ret
        exact Ret.mk (by simp [exB]; try omega) (by repeat (first | (with_reducible exact Kp.refl _) | (with_reducible assumption) | (with_reducible apply Kp.ext) | (with_reducible apply Kp.alloc) | (with_reducible apply Kp.drew) | (with_reducible apply Kp.drewN) | (with_reducible refine Kp.setCell ?_ (by first | (dsimp only; omega) | (simp; omega) | (simp; done) | (simp [size_ext_eq]; omega)) _)))

set_option maxRecDepth 100000 in
set_option maxHeartbeats 1000000 in
theorem gl_Polygon (g c N : Nat) (hN : N ≤ 40) (ln : Nat → Nat) (hln : ∀ i, i < N → ln i ≤ 300) (ew : Bool) (w : World) (hg : g < w.heap.size) (hcell : ∀ i, i < N → ∃ a c', w.cell? ⟨g, i, none⟩ = some (.slice a (ln i) c')) :
    Calls Tryz.prog 46 #[.iface 93 (.slice (some ⟨g, 0, none⟩) N c), .bool ew] w (Ret w (.int .i64 ((9 + sumN (fun i => 4 + 16 * ln i) N + exB ew : Nat) : Int))) := by
  have t0 := tas_Polygon_Point (.slice (some ⟨g, 0, none⟩) N c)
  have t1 := tas_Polygon_MultiPoint (.slice (some ⟨g, 0, none⟩) N c)
  have t2 := tas_Polygon_LineString (.slice (some ⟨g, 0, none⟩) N c)
  have t3 := tas_Polygon_MultiLineString (.slice (some ⟨g, 0, none⟩) N c)
  have t4 := tas_Polygon_Polygon (.slice (some ⟨g, 0, none⟩) N c)
  have HL := Lib.hid hln
  have HC := Lib.hid hcell
  have HB := Lib.hid (show ∀ k, k ≤ N → sumN (fun i => 4 + 16 * ln i) k ≤ 40 * 5000 from fun k hk => by
    have := sumN_le (g := fun i => 4 + 16 * ln i) (B := 5000) (k := k) fun i hi => by have := hln i (by omega); omega
    omega)
  clear hln hcell
  cases ew
  · go_enter Tryz.func46, Tryz.ntmps46
    go_wp2_with fail
    go_loopw [14, 75] (fun ss si wr => ∃ k : Nat, k ≤ N ∧ ss = .int .i64 ((sumN (fun i => 4 + 16 * ln i) k : Nat) : Int) ∧ si = .int .i64 k ∧ Kp w wr) (fun _ si _ => N - (intOf si).toNat)
    case atStart => exact ⟨0, Nat.zero_le _, rfl, rfl, (by repeat (first | (with_reducible exact Kp.refl _) | (with_reducible assumption) | (with_reducible apply Kp.ext) | (with_reducible apply Kp.alloc) | (with_reducible apply Kp.drew) | (with_reducible apply Kp.drewN) | (with_reducible refine Kp.setCell ?_ (by first | (dsimp only; omega) | (simp; omega) | (simp; done) | (simp [size_ext_eq]; omega)) _)))⟩
    case round =>
      obtain ⟨k, hkn, rfl, rfl, hkp⟩ := hrel
      have hgr : g < wr.heap.size := Nat.lt_of_lt_of_le hg hkp.size
      have hb := HB.out k hkn
      by_cases hlt : k < N
      · obtain ⟨a, c', hc⟩ := HC.out k hlt
        have hc' := Kp.cell hkp hc hg
        have hl := HL.out k hlt
        have hst : sumN (fun i => 4 + 16 * ln i) (k + 1) = sumN (fun i => 4 + 16 * ln i) k + (4 + 16 * ln k) := rfl
        have Hst := Lib.hid hst
        generalize sumN (fun i => 4 + 16 * ln i) k = Z at *
        generalize ln k = R at *
        clear hst hc
        go_wp2_with fail
        go_roundw
        case rel => exact ⟨k + 1, by omega, by rw [Hst.out]; go_num, by go_num, (by repeat (first | (with_reducible exact Kp.refl _) | (with_reducible assumption) | (with_reducible apply Kp.ext) | (with_reducible apply Kp.alloc) | (with_reducible apply Kp.drew) | (with_reducible apply Kp.drewN) | (with_reducible refine Kp.setCell ?_ (by first | (dsimp only; omega) | (simp; omega) | (simp; done) | (simp [size_ext_eq]; omega)) _)))⟩
        case measure => simp [intOf]; omega
      · obtain rfl : k = N := by omega
        go_wp2_with fail
        go_ret
        exact Ret.mk (by simp [exB]; try omega) (by repeat (first | (with_reducible exact Kp.refl _) | (with_reducible assumption) | (with_reducible apply Kp.ext) | (with_reducible apply Kp.alloc) | (with_reducible apply Kp.drew) | (with_reducible apply Kp.drewN) | (with_reducible refine Kp.setCell ?_ (by first | (dsimp only; omega) | (simp; omega) | (simp; done) | (simp [size_ext_eq]; omega)) _)))
  · go_enter Tryz.func46, Tryz.ntmps46
    go_wp2_with fail
    go_loopw [14, 75] (fun ss si wr => ∃ k : Nat, k ≤ N ∧ ss = .int .i64 ((sumN (fun i => 4 + 16 * ln i) k : Nat) : Int) ∧ si = .int .i64 k ∧ Kp w wr) (fun _ si _ => N - (intOf si).toNat)
    case atStart => exact ⟨0, Nat.zero_le _, rfl, rfl, (by repeat (first | (with_reducible exact Kp.refl _) | (with_reducible assumption) | (with_reducible apply Kp.ext) | (with_reducible apply Kp.alloc) | (with_reducible apply Kp.drew) | (with_reducible apply Kp.drewN) | (with_reducible refine Kp.setCell ?_ (by first | (dsimp only; omega) | (simp; omega) | (simp; done) | (simp [size_ext_eq]; omega)) _)))⟩
    case round =>
      obtain ⟨k, hkn, rfl, rfl, hkp⟩ := hrel
      have hgr : g < wr.heap.size := Nat.lt_of_lt_of_le hg hkp.size
      have hb := HB.out k hkn
      by_cases hlt : k < N
      · obtain ⟨a, c', hc⟩ := HC.out k hlt
        have hc' := Kp.cell hkp hc hg
        have hl := HL.out k hlt
        have hst : sumN (fun i => 4 + 16 * ln i) (k + 1) = sumN (fun i => 4 + 16 * ln i) k + (4 + 16 * ln k) := rfl
        have Hst := Lib.hid hst
        generalize sumN (fun i => 4 + 16 * ln i) k = Z at *
        generalize ln k = R at *
        clear hst hc
        go_wp2_with fail
        go_roundw
        case rel => exact ⟨k + 1, by omega, by rw [Hst.out]; go_num, by go_num, (by repeat (first | (with_reducible exact Kp.refl _) | (with_reducible assumption) | (with_reducible apply Kp.ext) | (with_reducible apply Kp.alloc) | (with_reducible apply Kp.drew) | (with_reducible apply Kp.drewN) | (with_reducible refine Kp.setCell ?_ (by first | (dsimp only; omega) | (simp; omega) | (simp; done) | (simp [size_ext_eq]; omega)) _)))⟩
        case measure => simp [intOf]; omega
      · obtain rfl : k = N := by omega
        go_wp2_with fail
        go_ret
        exact Ret.mk (by simp [exB]; try omega) (by repeat (first | (with_reducible exact Kp.refl _) | (with_reducible assumption) | (with_reducible apply Kp.ext) | (with_reducible apply Kp.alloc) | (with_reducible apply Kp.drew) | (with_reducible apply Kp.drewN) | (with_reducible refine Kp.setCell ?_ (by first | (dsimp only; omega) | (simp; omega) | (simp; done) | (simp [size_ext_eq]; omega)) _)))

set_option maxRecDepth 100000 in
set_option maxHeartbeats 1000000 in
theorem gl_MultiPolygon (g c N : Nat) (hN : N ≤ 40) (xs : Nat → Value) (ln : Nat → Nat) (hln : ∀ i, i < N → ln i ≤ 1000000000000) (ew : Bool) (w : World) (hg : g < w.heap.size) (hcell : ∀ i, i < N → w.cell? ⟨g, i, none⟩ = some (xs i))
    (hit : ∀ i, i < N → ∀ w', Kp w w' → Calls Tryz.prog 46 #[.iface 93 (xs i), .bool false] w' (Ret w' (.int .i64 (ln i : Int)))) :
    Calls Tryz.prog 46 #[.iface 99 (.slice (some ⟨g, 0, none⟩) N c), .bool ew] w (Ret w (.int .i64 ((9 + sumN ln N + exB ew : Nat) : Int))) := by
  have t0 := tas_MultiPolygon_Point (.slice (some ⟨g, 0, none⟩) N c)
  have t1 := tas_MultiPolygon_MultiPoint (.slice (some ⟨g, 0, none⟩) N c)
  have t2 := tas_MultiPolygon_LineString (.slice (some ⟨g, 0, none⟩) N c)
  have t3 := tas_MultiPolygon_MultiLineString (.slice (some ⟨g, 0, none⟩) N c)
  have t4 := tas_MultiPolygon_Polygon (.slice (some ⟨g, 0, none⟩) N c)
  have t5 := tas_MultiPolygon_MultiPolygon (.slice (some ⟨g, 0, none⟩) N c)
  have HL := Lib.hid hln
  have HC := Lib.hid hcell
  have HIt := Lib.hid hit
  have HB := Lib.hid (show ∀ k, k ≤ N → sumN ln k ≤ 40 * 1000000000000 from fun k hk => by
    have h1 := sumN_le (g := ln) (B := 1000000000000) (k := k) fun i hi => hln i (by omega)
    exact Nat.le_trans h1 (Nat.mul_le_mul_right _ (by omega)))
  clear hln hcell hit
  cases ew
  · go_enter Tryz.func46, Tryz.ntmps46
    go_wp2_with fail
    go_loopw [18, 95] (fun ss si wr => ∃ k : Nat, k ≤ N ∧ ss = .int .i64 ((sumN ln k : Nat) : Int) ∧ si = .int .i64 k ∧ Kp w wr) (fun _ si _ => N - (intOf si).toNat)
    case atStart => exact ⟨0, Nat.zero_le _, rfl, rfl, (by repeat (first | (with_reducible exact Kp.refl _) | (with_reducible assumption) | (with_reducible apply Kp.ext) | (with_reducible apply Kp.alloc) | (with_reducible apply Kp.drew) | (with_reducible apply Kp.drewN) | (with_reducible refine Kp.setCell ?_ (by first | (dsimp only; omega) | (simp; omega) | (simp; done) | (simp [size_ext_eq]; omega)) _)))⟩
    case round =>
      obtain ⟨k, hkn, rfl, rfl, hkp⟩ := hrel
      have hgr : g < wr.heap.size := Nat.lt_of_lt_of_le hg hkp.size
      have hb := HB.out k hkn
      by_cases hlt : k < N
      · have hc' := Kp.cell hkp (HC.out k hlt) hg
        have hl := HL.out k hlt
        have HI := Lib.hid (fun w' (k' : Kp wr w') => HIt.out k hlt w' (hkp.trans k'))
        have hst : sumN ln (k + 1) = sumN ln k + ln k := rfl
        have Hst := Lib.hid hst
        generalize sumN ln k = Z at *
        generalize ln k = R at *
        generalize xs k = x at *
        clear hst
        go_wp2_with (go_at_call 46; (first | (with_reducible refine (Ret.at_ext (HI.out _ (by repeat (first | (with_reducible exact Kp.refl _) | (with_reducible assumption) | (with_reducible apply Kp.ext) | (with_reducible apply Kp.alloc) | (with_reducible apply Kp.drew) | (with_reducible apply Kp.drewN) | (with_reducible refine Kp.setCell ?_ (by first | (dsimp only; omega) | (simp; omega) | (simp; done) | (simp [size_ext_eq]; omega)) _))))).mono ?_) | (with_reducible refine (HI.out _ (by repeat (first | (with_reducible exact Kp.refl _) | (with_reducible assumption) | (with_reducible apply Kp.ext) | (with_reducible apply Kp.alloc) | (with_reducible apply Kp.drew) | (with_reducible apply Kp.drewN) | (with_reducible refine Kp.setCell ?_ (by first | (dsimp only; omega) | (simp; omega) | (simp; done) | (simp [size_ext_eq]; omega)) _)))).mono ?_)); rintro e w' ⟨rfl, u, rfl⟩)
        go_roundw
        case rel => exact ⟨k + 1, by omega, by rw [Hst.out]; go_num, by go_num, (by repeat (first | (with_reducible exact Kp.refl _) | (with_reducible assumption) | (with_reducible apply Kp.ext) | (with_reducible apply Kp.alloc) | (with_reducible apply Kp.drew) | (with_reducible apply Kp.drewN) | (with_reducible refine Kp.setCell ?_ (by first | (dsimp only; omega) | (simp; omega) | (simp; done) | (simp [size_ext_eq]; omega)) _)))⟩
        case measure => simp [intOf]; omega
      · obtain rfl : k = N := by omega
        go_wp2_with fail
        go_ret
        exact Ret.mk (by simp [exB]; try omega) (by repeat (first | (with_reducible exact Kp.refl _) | (with_reducible assumption) | (with_reducible apply Kp.ext) | (with_reducible apply Kp.alloc) | (with_reducible apply Kp.drew) | (with_reducible apply Kp.drewN) | (with_reducible refine Kp.setCell ?_ (by first | (dsimp only; omega) | (simp; omega) | (simp; done) | (simp [size_ext_eq]; omega)) _)))
  · go_enter Tryz.func46, Tryz.ntmps46
    go_wp2_with fail
    go_loopw [18, 95] (fun ss si wr => ∃ k : Nat, k ≤ N ∧ ss = .int .i64 ((sumN ln k : Nat) : Int) ∧ si = .int .i64 k ∧ Kp w wr) (fun _ si _ => N - (intOf si).toNat)
    case atStart => exact ⟨0, Nat.zero_le _, rfl, rfl, (by repeat (first | (with_reducible exact Kp.refl _) | (with_reducible assumption) | (with_reducible apply Kp.ext) | (with_reducible apply Kp.alloc) | (with_reducible apply Kp.drew) | (with_reducible apply Kp.drewN) | (with_reducible refine Kp.setCell ?_ (by first | (dsimp only; omega) | (simp; omega) | (simp; done) | (simp [size_ext_eq]; omega)) _)))⟩
    case round =>
      obtain ⟨k, hkn, rfl, rfl, hkp⟩ := hrel
      have hgr : g < wr.heap.size := Nat.lt_of_lt_of_le hg hkp.size
      have hb := HB.out k hkn
      by_cases hlt : k < N
      · have hc' := Kp.cell hkp (HC.out k hlt) hg
        have hl := HL.out k hlt
        have HI := Lib.hid (fun w' (k' : Kp wr w') => HIt.out k hlt w' (hkp.trans k'))
        have hst : sumN ln (k + 1) = sumN ln k + ln k := rfl
        have Hst := Lib.hid hst
        generalize sumN ln k = Z at *
        generalize ln k = R at *
        generalize xs k = x at *
        clear hst
        go_wp2_with (go_at_call 46; (first | (with_reducible refine (Ret.at_ext (HI.out _ (by repeat (first | (with_reducible exact Kp.refl _) | (with_reducible assumption) | (with_reducible apply Kp.ext) | (with_reducible apply Kp.alloc) | (with_reducible apply Kp.drew) | (with_reducible apply Kp.drewN) | (with_reducible refine Kp.setCell ?_ (by first | (dsimp only; omega) | (simp; omega) | (simp; done) | (simp [size_ext_eq]; omega)) _))))).mono ?_) | (with_reducible refine (HI.out _ (by repeat (first | (with_reducible exact Kp.refl _) | (with_reducible assumption) | (with_reducible apply Kp.ext) | (with_reducible apply Kp.alloc) | (with_reducible apply Kp.drew) | (with_reducible apply Kp.drewN) | (with_reducible refine Kp.setCell ?_ (by first | (dsimp only; omega) | (simp; omega) | (simp; done) | (simp [size_ext_eq]; omega)) _)))).mono ?_)); rintro e w' ⟨rfl, u, rfl⟩)
        go_roundw
        case rel => exact ⟨k + 1, by omega, by rw [Hst.out]; go_num, by go_num, (by repeat (first | (with_reducible exact Kp.refl _) | (with_reducible assumption) | (with_reducible apply Kp.ext) | (with_reducible apply Kp.alloc) | (with_reducible apply Kp.drew) | (with_reducible apply Kp.drewN) | (with_reducible refine Kp.setCell ?_ (by first | (dsimp only; omega) | (simp; omega) | (simp; done) | (simp [size_ext_eq]; omega)) _)))⟩
        case measure => simp [intOf]; omega
      · obtain rfl : k = N := by omega
        go_wp2_with fail
        go_ret
        exact Ret.mk (by simp [exB]; try omega) (by repeat (first | (with_reducible exact Kp.refl _) | (with_reducible assumption) | (with_reducible apply Kp.ext) | (with_reducible apply Kp.alloc) | (with_reducible apply Kp.drew) | (with_reducible apply Kp.drewN) | (with_reducible refine Kp.setCell ?_ (by first | (dsimp only; omega) | (simp; omega) | (simp; done) | (simp [size_ext_eq]; omega)) _)))

set_option maxRecDepth 100000 in
set_option maxHeartbeats 1000000 in
theorem gl_Collection (g c N : Nat) (hN : N ≤ 40) (xs : Nat → Value) (ln : Nat → Nat) (hln : ∀ i, i < N → ln i ≤ 1000000000000) (ew : Bool) (w : World) (hg : g < w.heap.size) (hcell : ∀ i, i < N → w.cell? ⟨g, i, none⟩ = some (xs i))
    (hit : ∀ i, i < N → ∀ w', Kp w w' → Calls Tryz.prog 46 #[xs i, .bool false] w' (Ret w' (.int .i64 (ln i : Int)))) :
    Calls Tryz.prog 46 #[.iface 101 (.slice (some ⟨g, 0, none⟩) N c), .bool ew] w (Ret w (.int .i64 ((9 + sumN ln N + exB ew : Nat) : Int))) := by
  have t0 := tas_Collection_Point (.slice (some ⟨g, 0, none⟩) N c)
  have t1 := tas_Collection_MultiPoint (.slice (some ⟨g, 0, none⟩) N c)
  have t2 := tas_Collection_LineString (.slice (some ⟨g, 0, none⟩) N c)
  have t3 := tas_Collection_MultiLineString (.slice (some ⟨g, 0, none⟩) N c)
  have t4 := tas_Collection_Polygon (.slice (some ⟨g, 0, none⟩) N c)
  have t5 := tas_Collection_MultiPolygon (.slice (some ⟨g, 0, none⟩) N c)
  have t6 := tas_Collection_Collection (.slice (some ⟨g, 0, none⟩) N c)
  have HL := Lib.hid hln
  have HC := Lib.hid hcell
  have HIt := Lib.hid hit
  have HB := Lib.hid (show ∀ k, k ≤ N → sumN ln k ≤ 40 * 1000000000000 from fun k hk => by
    have h1 := sumN_le (g := ln) (B := 1000000000000) (k := k) fun i hi => hln i (by omega)
    exact Nat.le_trans h1 (Nat.mul_le_mul_right _ (by omega)))
  clear hln hcell hit
  cases ew
  · go_enter Tryz.func46, Tryz.ntmps46
    go_wp2_with fail
    go_loopw [22, 114] (fun ss si wr => ∃ k : Nat, k ≤ N ∧ ss = .int .i64 ((sumN ln k : Nat) : Int) ∧ si = .int .i64 k ∧ Kp w wr) (fun _ si _ => N - (intOf si).toNat)
    case atStart => exact ⟨0, Nat.zero_le _, rfl, rfl, (by repeat (first | (with_reducible exact Kp.refl _) | (with_reducible assumption) | (with_reducible apply Kp.ext) | (with_reducible apply Kp.alloc) | (with_reducible apply Kp.drew) | (with_reducible apply Kp.drewN) | (with_reducible refine Kp.setCell ?_ (by first | (dsimp only; omega) | (simp; omega) | (simp; done) | (simp [size_ext_eq]; omega)) _)))⟩
    case round =>
      obtain ⟨k, hkn, rfl, rfl, hkp⟩ := hrel
      have hgr : g < wr.heap.size := Nat.lt_of_lt_of_le hg hkp.size
      have hb := HB.out k hkn
      by_cases hlt : k < N
      · have hc' := Kp.cell hkp (HC.out k hlt) hg
        have hl := HL.out k hlt
        have HI := Lib.hid (fun w' (k' : Kp wr w') => HIt.out k hlt w' (hkp.trans k'))
        have hst : sumN ln (k + 1) = sumN ln k + ln k := rfl
        have Hst := Lib.hid hst
        generalize sumN ln k = Z at *
        generalize ln k = R at *
        generalize xs k = x at *
        clear hst
        go_wp2_with (go_at_call 46; (first | (with_reducible refine (Ret.at_ext (HI.out _ (by repeat (first | (with_reducible exact Kp.refl _) | (with_reducible assumption) | (with_reducible apply Kp.ext) | (with_reducible apply Kp.alloc) | (with_reducible apply Kp.drew) | (with_reducible apply Kp.drewN) | (with_reducible refine Kp.setCell ?_ (by first | (dsimp only; omega) | (simp; omega) | (simp; done) | (simp [size_ext_eq]; omega)) _))))).mono ?_) | (with_reducible refine (HI.out _ (by repeat (first | (with_reducible exact Kp.refl _) | (with_reducible assumption) | (with_reducible apply Kp.ext) | (with_reducible apply Kp.alloc) | (with_reducible apply Kp.drew) | (with_reducible apply Kp.drewN) | (with_reducible refine Kp.setCell ?_ (by first | (dsimp only; omega) | (simp; omega) | (simp; done) | (simp [size_ext_eq]; omega)) _)))).mono ?_)); rintro e w' ⟨rfl, u, rfl⟩)
        go_roundw
        case rel => exact ⟨k + 1, by omega, by rw [Hst.out]; go_num, by go_num, (by repeat (first | (with_reducible exact Kp.refl _) | (with_reducible assumption) | (with_reducible apply Kp.ext) | (with_reducible apply Kp.alloc) | (with_reducible apply Kp.drew) | (with_reducible apply Kp.drewN) | (with_reducible refine Kp.setCell ?_ (by first | (dsimp only; omega) | (simp; omega) | (simp; done) | (simp [size_ext_eq]; omega)) _)))⟩
        case measure => simp [intOf]; omega
      · obtain rfl : k = N := by omega
        go_wp2_with fail
        go_ret
        exact Ret.mk (by simp [exB]; try omega) (by repeat (first | (with_reducible exact Kp.refl _) | (with_reducible assumption) | (with_reducible apply Kp.ext) | (with_reducible apply Kp.alloc) | (with_reducible apply Kp.drew) | (with_reducible apply Kp.drewN) | (with_reducible refine Kp.setCell ?_ (by first | (dsimp only; omega) | (simp; omega) | (simp; done) | (simp [size_ext_eq]; omega)) _)))
  · go_enter Tryz.func46, Tryz.ntmps46
    go_wp2_with fail
    go_loopw [22, 114] (fun ss si wr => ∃ k : Nat, k ≤ N ∧ ss = .int .i64 ((sumN ln k : Nat) : Int) ∧ si = .int .i64 k ∧ Kp w wr) (fun _ si _ => N - (intOf si).toNat)
    case atStart => exact ⟨0, Nat.zero_le _, rfl, rfl, (by repeat (first | (with_reducible exact Kp.refl _) | (with_reducible assumption) | (with_reducible apply Kp.ext) | (with_reducible apply Kp.alloc) | (with_reducible apply Kp.drew) | (with_reducible apply Kp.drewN) | (with_reducible refine Kp.setCell ?_ (by first | (dsimp only; omega) | (simp; omega) | (simp; done) | (simp [size_ext_eq]; omega)) _)))⟩
    case round =>
      obtain ⟨k, hkn, rfl, rfl, hkp⟩ := hrel
      have hgr : g < wr.heap.size := Nat.lt_of_lt_of_le hg hkp.size
      have hb := HB.out k hkn
      by_cases hlt : k < N
      · have hc' := Kp.cell hkp (HC.out k hlt) hg
        have hl := HL.out k hlt
        have HI := Lib.hid (fun w' (k' : Kp wr w') => HIt.out k hlt w' (hkp.trans k'))
        have hst : sumN ln (k + 1) = sumN ln k + ln k := rfl
        have Hst := Lib.hid hst
        generalize sumN ln k = Z at *
        generalize ln k = R at *
        generalize xs k = x at *
        clear hst
        go_wp2_with (go_at_call 46; (first | (with_reducible refine (Ret.at_ext (HI.out _ (by repeat (first | (with_reducible exact Kp.refl _) | (with_reducible assumption) | (with_reducible apply Kp.ext) | (with_reducible apply Kp.alloc) | (with_reducible apply Kp.drew) | (with_reducible apply Kp.drewN) | (with_reducible refine Kp.setCell ?_ (by first | (dsimp only; omega) | (simp; omega) | (simp; done) | (simp [size_ext_eq]; omega)) _))))).mono ?_) | (with_reducible refine (HI.out _ (by repeat (first | (with_reducible exact Kp.refl _) | (with_reducible assumption) | (with_reducible apply Kp.ext) | (with_reducible apply Kp.alloc) | (with_reducible apply Kp.drew) | (with_reducible apply Kp.drewN) | (with_reducible refine Kp.setCell ?_ (by first | (dsimp only; omega) | (simp; omega) | (simp; done) | (simp [size_ext_eq]; omega)) _)))).mono ?_)); rintro e w' ⟨rfl, u, rfl⟩)
        go_roundw
        case rel => exact ⟨k + 1, by omega, by rw [Hst.out]; go_num, by go_num, (by repeat (first | (with_reducible exact Kp.refl _) | (with_reducible assumption) | (with_reducible apply Kp.ext) | (with_reducible apply Kp.alloc) | (with_reducible apply Kp.drew) | (with_reducible apply Kp.drewN) | (with_reducible refine Kp.setCell ?_ (by first | (dsimp only; omega) | (simp; omega) | (simp; done) | (simp [size_ext_eq]; omega)) _)))⟩
        case measure => simp [intOf]; omega
      · obtain rfl : k = N := by omega
        go_wp2_with fail
        go_ret
        exact Ret.mk (by simp [exB]; try omega) (by repeat (first | (with_reducible exact Kp.refl _) | (with_reducible assumption) | (with_reducible apply Kp.ext) | (with_reducible apply Kp.alloc) | (with_reducible apply Kp.drew) | (with_reducible apply Kp.drewN) | (with_reducible refine Kp.setCell ?_ (by first | (dsimp only; omega) | (simp; omega) | (simp; done) | (simp [size_ext_eq]; omega)) _)))

end Go.Proofs.YtobdohhabgnjiaaGreatDoor

set_option linter.all false
namespace Go.Proofs.YtobdohhabgnjiaaGreatDoor
open PubFl Go.RowKit

attribute [local go_sem] cell_ext frozen_ext ext_setCell cell_store size_ext_eq lt_p0 lt_p1 lt_p2 lt_p3 lt_p4 lt_p5 lt_p6 lt_p7 lt_p8 lt_p9 lt_p10 lt_p11 lt_p12 lt_p13 lt_p14 lt_p15 lt_p16 lt_p17 lt_p18 lt_p19 lt_p20 lt_p21 lt_p22 lt_p23 lt_p24 lt_p25 lt_p26 lt_p27 lt_p28 lt_p29 lt_p30 lt_p31 lt_p32 lt_q1 lt_q2 lt_q3 lt_q4 lt_q5 lt_q6 lt_q7 lt_q8 lt_q9 lt_q10 lt_q11 lt_q12 lt_q13 lt_q14 lt_q15 lt_q16 lt_q17 lt_q18 lt_q19 lt_q20 lt_q21 lt_q22 lt_q23 lt_q24 lt_q25 lt_q26 lt_q27 lt_q28 lt_q29 lt_q30 lt_q31 lt_q32 run_fop run_store_float
attribute [local go_sem high] cmp_eql cmp_neq cmp_lss cmp_leq cmp_gtr cmp_geq

theorem poly_len (big : Bool) (ls : List (List (Nat × Nat))) : (accB (headB 3 0 big ++ num32 ls.length big) (fun j => num32 (ls.getD j []).length big ++ ptsForm (ls.getD j []) big) ls.length).length = 9 + sumN (fun i => 4 + 16 * (ls.getD i []).length) ls.length := by
  rw [accB_length, List.length_append, headB_length, num32_length]
  have e : sumN (fun i => (num32 (ls.getD i []).length big ++ ptsForm (ls.getD i []) big).length) ls.length = sumN (fun i => 4 + 16 * (ls.getD i []).length) ls.length := sumN_congr fun i _ => by
    rw [List.length_append, num32_length, ptsForm_length]; omega
  rw [e]; rfl
theorem glPoly_c (big : Bool) (ls : List (List (Nat × Nat))) (h40 : ls.length ≤ 40) (hns : ∀ l ∈ ls, l.length ≤ 300) (lo hi : Nat) (v : Value) (ew : Bool) (w : World) (hv : ListsB ls lo hi w v) :
    Calls Tryz.prog 46 #[.iface 93 v, .bool ew] w (Ret w (.int .i64 (((accB (headB 3 0 big ++ num32 ls.length big) (fun j => num32 (ls.getD j []).length big ++ ptsForm (ls.getD j []) big) ls.length).length + exB ew : Nat) : Int))) := by
  obtain ⟨g, c, xs, rfl, h1, h2, h3, h4, h5⟩ := row_pick hv
  rw [poly_len]
  exact gl_Polygon g c ls.length h40 (fun i => (ls.getD i []).length) (fun i hi => getD_le hns i) ew w h3 fun i hi => by
    obtain ⟨l, hh, hx, _⟩ := h5 i hi
    obtain ⟨g2, c2, hx2, _⟩ := pts_slice hx
    exact ⟨some ⟨g2, 0, none⟩, c2, by rw [h4 i hi, hx2]⟩
theorem geomLen_c (big : Bool) : ∀ (d : Nat), d ≤ 4 → ∀ (s : Sh) (lo hi : Nat) (v : Value) (ew : Bool) (w : World), GeoB d lo hi w v s → cntOk d s = true → Small d s → BitsSh d s → hi ≤ w.heap.size →
    Calls Tryz.prog 46 #[v, .bool ew] w (Ret w (.int .i64 (((formSh d s 0 big false).length + exB ew : Nat) : Int)))
  | 0, _, _, _, _, _, _, _, h, _, _, _, _ => h.elim
  | d + 1, hd, s, lo, hi, v, ew, w, hg, hok, hsm, hbits, hle => by
    obtain ⟨_, _, n3, n4⟩ := shHead_spec (cntOk_parts hok).1
    have hb : ∀ i, i < s.parts.length → (formSh d (s.parts.getD i dsh) 0 big false).length ≤ 1000000000000 := fun i hi => by
      obtain ⟨p1, p2, _⟩ := parts_ok hok hsm hbits i hi
      have h1 := formSh_len (d := d) 0 big false p1 p2
      have h2 : 41 ^ d ≤ 41 ^ 3 := Nat.pow_le_pow_right (by decide) (by omega)
      have h3 : 200000 * 41 ^ d ≤ 200000 * 41 ^ 3 := Nat.mul_le_mul_left _ h2
      exact Nat.le_trans h1 (Nat.le_trans h3 (by decide))
    rcases hg with hg | hg | hg | hg | hg | hg | hg
    · obtain ⟨hK, x, y, hl, hp, rfl⟩ := hg
      have hgd : s.lists.getD 0 [] = [(x, y)] := by rw [hl]; rfl
      rw [formSh_1 hK, hgd, List.length_append, headB_length, ptsForm_length]
      exact gl_Point x y ew w
    · obtain ⟨hK, ps, u, hl, hp, rfl, hu⟩ := hg
      have hgd : s.lists.getD 0 [] = ps := by rw [hl]; rfl
      obtain ⟨g, c, rfl, _⟩ := pts_slice hu
      rw [formSh_2 hK, hgd, List.length_append, List.length_append, headB_length, num32_length, ptsForm_length]
      have := gl_LineString g ps.length c (hsm.1 _ (by rw [hl]; simp)) ew w
      rwa [show 9 + 16 * ps.length + exB ew = (if (0 : Nat) = 0 then 5 else 9) + 4 + ps.length * 16 + exB ew by rw [if_pos rfl]; omega] at this
    · obtain ⟨hK, u, hp, rfl, hu⟩ := hg
      rw [formSh_3 hK]
      exact glPoly_c big s.lists n3 hsm.1 lo hi u ew w hu
    · obtain ⟨hK, ps, u, hl, hp, rfl, hu⟩ := hg
      have hgd : s.lists.getD 0 [] = ps := by rw [hl]; rfl
      obtain ⟨g, c, rfl, _⟩ := pts_slice hu
      rw [formSh_4 hK, hgd, same_big, accB_length, List.length_append, headB_length, num32_length]
      have e : sumN (fun i => (headB 1 0 big ++ ptsForm [ps.getD i (0, 0)] big).length) ps.length = 21 * ps.length := by
        have e1 : ∀ k, sumN (fun i => (headB 1 0 big ++ ptsForm [ps.getD i (0, 0)] big).length) k = 21 * k := fun k => by
          induction k with
          | zero => rfl
          | succ k ih =>
            show sumN _ k + (headB 1 0 big ++ ptsForm [ps.getD k (0, 0)] big).length = _
            rw [ih, List.length_append, headB_length, ptsForm_length, if_pos rfl]; simp; omega
        exact e1 _
      rw [e]
      have := gl_MultiPoint g ps.length c (hsm.1 _ (by rw [hl]; simp)) ew w
      rwa [show 9 + 21 * ps.length + exB ew = (if (0 : Nat) = 0 then 5 else 9) + 4 + 21 * ps.length + exB ew by rw [if_pos rfl]] at this
    · obtain ⟨hK, u, hp, rfl, hu⟩ := hg
      obtain ⟨g, c, xs, rfl, h1, h2, h3, h4, h5⟩ := row_pick hu
      rw [formSh_5 hK, same_big, accB_length, List.length_append, headB_length, num32_length]
      have e : sumN (fun i => (headB 2 0 big ++ num32 (s.lists.getD i []).length big ++ ptsForm (s.lists.getD i []) big).length) s.lists.length = sumN (fun i => 9 + 16 * (s.lists.getD i []).length) s.lists.length := sumN_congr fun i _ => by
        rw [List.length_append, List.length_append, headB_length, num32_length, ptsForm_length, if_pos rfl]; omega
      rw [e]
      have := gl_MultiLineString g c s.lists.length n3 (fun i => (s.lists.getD i []).length) (fun i hi => getD_le hsm.1 i) ew w h3 fun i hi => by
        obtain ⟨l, hh, hx, _⟩ := h5 i hi
        obtain ⟨g2, c2, hx2, _⟩ := pts_slice hx
        exact ⟨some ⟨g2, 0, none⟩, c2, by rw [h4 i hi, hx2]⟩
      rwa [show ∀ z, 9 + z + exB ew = (if (0 : Nat) = 0 then 5 else 9) + 4 + z + exB ew from fun z => by rw [if_pos rfl]] at this
    · obtain ⟨hK, u, hl, rfl, hu⟩ := hg
      obtain ⟨g, c, xs, rfl, h1, h2, h3, h4, h5⟩ := row_pick hu
      rw [formSh_6 hK, same_big, accB_length, List.length_append, headB_length, num32_length]
      have := gl_MultiPolygon g c s.parts.length n4 xs (fun i => (formSh d (s.parts.getD i dsh) 0 big false).length) hb ew w h3 h4 fun i hi w' hk => by
        obtain ⟨p1, p2, p3, p4⟩ := polys_ok hK hok hsm hbits big i hi
        obtain ⟨l, hh, hx, q1, q2, q3⟩ := h5 i hi
        have := glPoly_c big _ p1 p2 l hh _ false w' (RowB.keep (keep_list _) hx (Agree.of_kp hk q3) hk.size)
        rw [← p4] at this
        exact this
      rwa [show ∀ z, 9 + z + exB ew = (if (0 : Nat) = 0 then 5 else 9) + 4 + z + exB ew from fun z => by rw [if_pos rfl]] at this
    · obtain ⟨hK, u, hl, rfl, hu⟩ := hg
      obtain ⟨g, c, xs, rfl, h1, h2, h3, h4, h5⟩ := row_pick hu
      rw [formSh_7 hK, same_big, accB_length, List.length_append, headB_length, num32_length]
      have := gl_Collection g c s.parts.length n4 xs (fun i => (formSh d (s.parts.getD i dsh) 0 big false).length) hb ew w h3 h4 fun i hi w' hk => by
        obtain ⟨p1, p2, p3⟩ := parts_ok hok hsm hbits i hi
        obtain ⟨l, hh, hx, q1, q2, q3⟩ := h5 i hi
        exact geomLen_c big d (by omega) _ l hh _ false w' (GeoB.keep hx (Agree.of_kp hk q3) hk.size) p1 p2 p3 (Nat.le_trans q3 hk.size)
      rwa [show ∀ z, 9 + z + exB ew = (if (0 : Nat) = 0 then 5 else 9) + 4 + z + exB ew from fun z => by rw [if_pos rfl]] at this
end Go.Proofs.YtobdohhabgnjiaaGreatDoor

set_option linter.all false
namespace Go.Proofs.YtobdohhabgnjiaaGreatDoor
open PubFl Go.RowKit

attribute [local go_sem] cell_ext frozen_ext ext_setCell cell_store size_ext_eq lt_p0 lt_p1 lt_p2 lt_p3 lt_p4 lt_p5 lt_p6 lt_p7 lt_p8 lt_p9 lt_p10 lt_p11 lt_p12 lt_p13 lt_p14 lt_p15 lt_p16 lt_p17 lt_p18 lt_p19 lt_p20 lt_p21 lt_p22 lt_p23 lt_p24 lt_p25 lt_p26 lt_p27 lt_p28 lt_p29 lt_p30 lt_p31 lt_p32 lt_q1 lt_q2 lt_q3 lt_q4 lt_q5 lt_q6 lt_q7 lt_q8 lt_q9 lt_q10 lt_q11 lt_q12 lt_q13 lt_q14 lt_q15 lt_q16 lt_q17 lt_q18 lt_q19 lt_q20 lt_q21 lt_q22 lt_q23 lt_q24 lt_q25 lt_q26 lt_q27 lt_q28 lt_q29 lt_q30 lt_q31 lt_q32 run_fop run_store_float
attribute [local go_sem high] cmp_eql cmp_neq cmp_lss cmp_leq cmp_gtr cmp_geq

/-- what a call leaves that hands back a value, and in this world -/
def RetW1 (v : Value) (W : World) (e : Ending) (w' : World) : Prop := e = .returned v ∧ w' = W
theorem newBuf_c (a : Option Addr) (n c : Nat) (w : World) : Calls Tryz.prog 45 #[.slice a n c] w (RetW1 (.pointer (some ⟨w.heap.size, 0, none⟩)) (w.alloc (.cells #[.slice a n c, .int .i64 0, .int .i8 0] 45))) := by
  go_enter Tryz.func45, Tryz.ntmps45
  go_wp2_with fail
  go_ret
  exact ⟨rfl, rfl⟩
theorem newEncC_c (v : Value) (w : World) : Calls Tryz.prog 32 #[.iface 41 v] w (RetW1 (.pointer (some ⟨w.heap.size, 0, none⟩)) (w.alloc (.cells #[.slice none 0 0, .iface 41 v, .int .u8 0] 125))) := by
  go_enter Tryz.func32, Tryz.ntmps32
  go_wp2_with fail
  go_ret
  exact ⟨rfl, rfl⟩
theorem setOrdC_c (g : Nat) (o : Int) (w : World) (hg : g < w.heap.size) (x : Int) (hc : w.cell? ⟨g, 2, none⟩ = some (.int .u8 x)) (hz : w.frozen? ⟨g, 2, none⟩ = false) : Calls Tryz.prog 33 #[.pointer (some ⟨g, 0, none⟩), .int .u8 o] w (Ret0 (w.setCell ⟨g, 2, none⟩ (.int .u8 o))) := by
  go_enter Tryz.func33, Tryz.ntmps33
  go_wp2_with fail
  go_end0
  exact ⟨rfl, rfl⟩
theorem newEnc_c (v : Value) (w : World) : Calls Tryz.prog 15 #[.iface 41 v] w (RetW1 (.pointer (some ⟨w.heap.size + 1, 0, none⟩)) ((w.alloc (.cells #[.slice none 0 0, .iface 41 v, .int .u8 0] 125)).alloc (.cells #[.pointer (some ⟨w.heap.size, 0, none⟩)] 85))) := by
  go_enter Tryz.func15, Tryz.ntmps15
  go_wp2_with (first | (go_at_call 32; (with_reducible refine (newEncC_c _ _).mono ?_); rintro e w1 ⟨rfl, rfl⟩) | (go_at_call 33; (with_reducible refine (setOrdC_c _ 0 _ (by simp) 0 (by simp) (by simp)).mono ?_); rintro e w1 ⟨rfl, rfl⟩))
  go_ret
  exact ⟨rfl, rfl⟩
theorem setOrd_c (gW gE : Nat) (o : Int) (w : World) (hW : gW < w.heap.size) (hp : w.cell? ⟨gW, 0, none⟩ = some (.pointer (some ⟨gE, 0, none⟩))) (hg : gE < w.heap.size) (x : Int) (hc : w.cell? ⟨gE, 2, none⟩ = some (.int .u8 x)) (hz : w.frozen? ⟨gE, 2, none⟩ = false) : Calls Tryz.prog 16 #[.pointer (some ⟨gW, 0, none⟩), .int .u8 o] w (RetW1 (.pointer (some ⟨gW, 0, none⟩)) (w.setCell ⟨gE, 2, none⟩ (.int .u8 o))) := by
  go_enter Tryz.func16, Tryz.ntmps16
  go_wp2_with (go_at_call 33; (with_reducible refine (setOrdC_c _ o _ hg x hc hz).mono ?_); rintro e w1 ⟨rfl, rfl⟩)
  go_ret
  exact ⟨rfl, rfl⟩
theorem bufLen_c (gB : Nat) (gD : Nat × Nat) (cap : Nat) (bs : List Nat) (w : World) (h : BufW w gB gD cap bs) : Calls Tryz.prog 47 #[.pointer (some ⟨gB, 0, none⟩)] w (Ret w (.int .i64 (bs.length : Int))) := by
  have hr := Nat.le_trans h.room h.small
  rcases h.st with ⟨e, h0⟩ | ⟨g, c, cur, h0, _⟩
  · subst e
    exact lenG_c gB 0 0 none w h.lt h0 h.b1 (by decide)
  · exact lenG_c gB bs.length c _ w h.lt h0 h.b1 hr
theorem bufBytes_c (gB g n c : Nat) (w : World) (hlt : gB < w.heap.size) (b0 : w.cell? ⟨gB, 0, none⟩ = some (.slice (some ⟨g, 0, none⟩) n c)) (b1 : w.cell? ⟨gB, 1, none⟩ = some (.int .i64 0)) (hn : n ≤ c) (hc : c ≤ 9223372036854775807) : Calls Tryz.prog 20 #[.pointer (some ⟨gB, 0, none⟩)] w (Ret w (.slice (some ⟨g, 0, none⟩) n c)) := by
  have e1 : (0 = c) = (c = 0) := propext ⟨Eq.symm, Eq.symm⟩
  go_enter Tryz.func20, Tryz.ntmps20
  go_wp2_with fail
  first | (with_reducible refine wp_region_ext_lit2 ?_ ?_ ?_) | refine wp_region_ext_lit ?_ ?_ ?_
  kernel_rfl
  kernel_rfl
  repeat (go_big_quiet_step (fail))
  refine wpQuiet_nil ?_
  rintro _ ⟨u, rfl⟩
  go_wp2_with fail
  go_ret
  exact Ret.mk rfl (by repeat (first | (with_reducible exact Kp.refl _) | (with_reducible assumption) | (with_reducible apply Kp.ext) | (with_reducible apply Kp.alloc) | (with_reducible apply Kp.drew) | (with_reducible apply Kp.drewN) | (with_reducible refine Kp.setCell ?_ (by first | (dsimp only; omega) | (simp; omega) | (simp; done) | (simp [size_ext_eq]; omega)) _)))
theorem bufBytesNil_c (gB : Nat) (w : World) (hlt : gB < w.heap.size) (b0 : w.cell? ⟨gB, 0, none⟩ = some (.slice none 0 0)) (b1 : w.cell? ⟨gB, 1, none⟩ = some (.int .i64 0)) : Calls Tryz.prog 20 #[.pointer (some ⟨gB, 0, none⟩)] w (Ret w (.slice none 0 0)) := by
  go_enter Tryz.func20, Tryz.ntmps20
  go_wp2_with fail
  first | (with_reducible refine wp_region_ext_lit2 ?_ ?_ ?_) | refine wp_region_ext_lit ?_ ?_ ?_
  kernel_rfl
  kernel_rfl
  repeat (go_big_quiet_step (fail))
  refine wpQuiet_nil ?_
  rintro _ ⟨u, rfl⟩
  go_wp2_with fail
  go_ret
  exact Ret.mk rfl (by repeat (first | (with_reducible exact Kp.refl _) | (with_reducible assumption) | (with_reducible apply Kp.ext) | (with_reducible apply Kp.alloc) | (with_reducible apply Kp.drew) | (with_reducible apply Kp.drewN) | (with_reducible refine Kp.setCell ?_ (by first | (dsimp only; omega) | (simp; omega) | (simp; done) | (simp [size_ext_eq]; omega)) _)))
end Go.Proofs.YtobdohhabgnjiaaGreatDoor

set_option linter.all false
namespace Go.Proofs.YtobdohhabgnjiaaGreatDoor
open PubFl Go.RowKit

attribute [local go_sem] cell_ext frozen_ext ext_setCell cell_store size_ext_eq lt_p0 lt_p1 lt_p2 lt_p3 lt_p4 lt_p5 lt_p6 lt_p7 lt_p8 lt_p9 lt_p10 lt_p11 lt_p12 lt_p13 lt_p14 lt_p15 lt_p16 lt_p17 lt_p18 lt_p19 lt_p20 lt_p21 lt_p22 lt_p23 lt_p24 lt_p25 lt_p26 lt_p27 lt_p28 lt_p29 lt_p30 lt_p31 lt_p32 lt_q1 lt_q2 lt_q3 lt_q4 lt_q5 lt_q6 lt_q7 lt_q8 lt_q9 lt_q10 lt_q11 lt_q12 lt_q13 lt_q14 lt_q15 lt_q16 lt_q17 lt_q18 lt_q19 lt_q20 lt_q21 lt_q22 lt_q23 lt_q24 lt_q25 lt_q26 lt_q27 lt_q28 lt_q29 lt_q30 lt_q31 lt_q32 run_fop run_store_float
attribute [local go_sem high] cmp_eql cmp_neq cmp_lss cmp_leq cmp_gtr cmp_geq

/-- what Marshal hands back: these bytes, in memory of their own -/
def RetMar (w : World) (bs : List Nat) (e : Ending) (w' : World) : Prop := ∃ g c u, e = .returned (.tuple #[.slice (some ⟨g, 0, none⟩) bs.length c, .nilIface]) ∧ w' = ext w u ∧ w.heap.size ≤ g ∧ g < w'.heap.size ∧ bs.length ≤ c ∧ BytesAt w' g 0 bs
theorem Kb.kp {S : List Nat} {gB : Nat} {gD : Nat × Nat} {w0 w w' : World} (h : Kb S gB gD w w') (k : Kp w0 w) (hs : ∀ b ∈ S, w0.heap.size ≤ b) (hB : w0.heap.size ≤ gB) (hD : w0.heap.size ≤ gD.2) (hD1 : w0.heap.size ≤ gD.1) : Kp w0 w' :=
  ⟨h.os.trans k.os, h.tape.trans k.tape, h.output.trans k.output, Nat.le_trans k.size h.size, fun b hb => (h.low b (by omega) (by omega) (Nat.lt_of_lt_of_le hb k.size) (fun c => by have := hs b c; omega) (by omega)).trans (k.block b hb)⟩
theorem encN_new (w0 : World) (L : Nat) (hL : L ≤ 1000000000000) (big : Bool) (z : Array Value) (hz : z.size = L) (TB TE TW : TypeId) (n1 n2 : Nat) (h1 : n1 = w0.heap.size + 1) (h2 : n2 = w0.heap.size + 1 + 1) :
    EncN ((((w0.alloc (.cells z 5)).alloc (.cells #[.slice (some ⟨w0.heap.size, 0, none⟩) 0 L, .int .i64 0, .int .i8 0] TB)).alloc (.cells #[.slice none 0 0, .iface 41 (.pointer (some ⟨n1, 0, none⟩)), .int .u8 (ordN big)] TE)).alloc (.cells #[.pointer (some ⟨n2, 0, none⟩)] TW)) n2 n1 (w0.heap.size, w0.heap.size) L big [] := by
  subst h1 h2
  refine ⟨by simp [go_sem], by simp [go_sem], by simp [go_sem], fun j => ?_, by simp, ⟨.inr ⟨w0.heap.size, L, z, by simp [go_sem], .inl rfl, by omega, ?_, hz, rfl, Nat.zero_le _, by omega, .inr (Nat.le_refl _)⟩, by simp [go_sem], ⟨0, by simp [go_sem]⟩, fun j => ?_, by simp, Nat.zero_le _, by omega, by simp; omega⟩, by omega, by rw [rowOf_some (g := w0.heap.size) (n := 0) (c := L) (by simp [go_sem])]; intro c; injection c with c; omega⟩
  · simp [go_sem]
  · rw [heap_alloc_old, heap_alloc_old, heap_alloc_old, heap_alloc_new] <;> simp <;> omega
  · simp [go_sem]

theorem wkbEnc_c (gW gE gB : Nat) (gD : Nat × Nat) (cap : Nat) (big : Bool) (bs qs : List Nat) (v : Value) (w : World) (hW : gW < w.heap.size) (hp : w.cell? ⟨gW, 0, none⟩ = some (.pointer (some ⟨gE, 0, none⟩))) (h : Calls Tryz.prog 37 #[.pointer (some ⟨gE, 0, none⟩), v, .int .i64 0] w (RetN gE gB gD cap big bs qs w)) :
    Calls Tryz.prog 19 #[.pointer (some ⟨gW, 0, none⟩), v] w (RetN gE gB gD cap big bs qs w) := by
  have H := Lib.hid h
  clear h
  go_enter Tryz.func19, Tryz.ntmps19
  go_wp2_with (go_at_call 37; (with_reducible refine (H.out).mono ?_); rintro e w1 ⟨gb, rfl, hr⟩)
  go_ret
  exact ⟨gb, rfl, hr⟩
theorem len_at {w' : World} {n L : Nat} {f : FuncId} {args : Array Value} (h : n = L) (hc : Calls Tryz.prog f args w' (Ret w' (.int .i64 (n : Int)))) : Calls Tryz.prog f args w' (Ret w' (.int .i64 (L : Int))) := by subst h; exact hc
theorem bytes_at {w' : World} {n L g c : Nat} {f : FuncId} {args : Array Value} (h : n = L) (hc : Calls Tryz.prog f args w' (Ret w' (.slice (some ⟨g, 0, none⟩) n c))) : Calls Tryz.prog f args w' (Ret w' (.slice (some ⟨g, 0, none⟩) L c)) := by subst h; exact hc
theorem form_pos (d : Nat) (s : Sh) (sys : Nat) (big turns : Bool) : 0 < (formSh (d + 1) s sys big turns).length := by
  have hh : ∀ k, 0 < (headB k sys big).length := fun k => by unfold headB; simp
  have hacc : ∀ (k n : Nat) (f : Nat → List Nat) (m : Nat), 0 < (accB (headB k sys big ++ num32 n big) f m).length := fun k n f m => by
    rw [accB_length, List.length_append]
    have := hh k
    omega
  unfold formSh
  split
  · rw [List.length_append]; have := hh 1; omega
  split
  · rw [List.length_append, List.length_append]; have := hh 2; omega
  split
  · exact hacc _ _ _ _
  split
  · exact hacc _ _ _ _
  split
  · exact hacc _ _ _ _
  split
  · exact hacc _ _ _ _
  · exact hacc _ _ _ _

set_option maxRecDepth 20000 in
set_option maxHeartbeats 2000000 in
theorem marshal_c (big : Bool) (d : Nat) (hd : d ≤ 3) (s : Sh) (lo hi : Nat) (v : Value) (gO cO : Nat) (w : World) (hg : GeoB (d + 1) lo hi w v s) (hok : cntOk (d + 1) s = true) (hsm : Small (d + 1) s) (hbits : BitsSh (d + 1) s) (hle : hi ≤ w.heap.size) (hO : gO < w.heap.size) (hcO : w.cell? ⟨gO, 0, none⟩ = some (.int .u8 (ordN big))) :
    Calls Tryz.prog 30 #[v, .slice (some ⟨gO, 0, none⟩) 1 cO] w (RetMar w (formSh (d + 1) s 0 big false)) := by
  have hlen : (formSh (d + 1) s 0 big false).length ≤ 1000000000000 := by
    have h1 := formSh_len (d := d + 1) 0 big false hok hsm
    have h2 : 41 ^ (d + 1) ≤ 41 ^ 4 := Nat.pow_le_pow_right (by decide) (by omega)
    have h3 : 200000 * 41 ^ (d + 1) ≤ 200000 * 41 ^ 4 := Nat.mul_le_mul_left _ h2
    exact Nat.le_trans h1 (Nat.le_trans h3 (by decide))
  have hpos : 0 < (formSh (d + 1) s 0 big false).length := form_pos d s 0 big false
  have HGL := Lib.hid (geomLen_c big (d + 1) (by omega) s lo hi v false w hg hok hsm hbits hle)
  obtain ⟨tv, uv, rfl⟩ := hg.iface
  obtain ⟨i0, hi', hz0, hz1, hz2⟩ := info_parts infoU8
  have HE := Lib.hid (fun (w' : World) (hk : Kp w w') (gE gB : Nat) (gD : Nat × Nat) (h1 : w.heap.size ≤ gE) (h2 : w.heap.size ≤ gB) (h3 : w.heap.size ≤ gD.1 ∧ w.heap.size ≤ gD.2) (he : EncN w' gE gB gD (formSh (d + 1) s 0 big false).length big []) =>
    encN_c gE gB gD _ big d s 0 (by decide) lo hi _ [] w' (GeoB.keep hg (Agree.of_kp hk hle) hk.size) hok hsm hbits (Nat.le_trans hle hk.size) ⟨fun b hb => by simp at hb; omega, .inr (by omega), .inr (by omega), by omega⟩ he (by simp))
  generalize formSh (d + 1) s 0 big false = bs at *
  obtain ⟨L, hL⟩ : ∃ L, bs.length = L := ⟨_, rfl⟩
  rw [hL] at HGL hlen hpos HE
  have hmk : ∀ w, (Instr.makeSlice 25 (.int .i64 0) (.int .i64 (L : Int))).run Tryz.prog w = .ok (.slice (some ⟨w.heap.size, 0, none⟩) 0 L) (w.alloc (.cells (madeCells #[.int .u8 0] L) 5)) := fun w => by
    have := run_make (P := Tryz.prog) w 25 5 i0 (.int .u8 0) Tryz.underlying25 hi' hz0 .i64 .i64 0 (L : Int) (by omega) (by omega) (by rw [hz2]; omega) (by omega)
    rw [this, hz1]
    simp
    rfl
  have HL := Lib.hid hL
  clear hg hok hsm hbits hL
  have e0 : exB false = 0 := rfl
  rw [e0, Nat.add_zero] at HGL
  have hb := Lib.hid hcO
  go_enter Tryz.func30, Tryz.ntmps30
  go_wp2_with (first | (go_at_call 46; (with_reducible refine (HGL.out).mono ?_); rintro e w1 ⟨rfl, u, hu⟩; have hk0 : Kp w w1 := (by rw [hu]; exact Kp.ext (Kp.refl w) u); have hc1 := Kp.cell hk0 hb.out hO; have hO1 := Nat.lt_of_lt_of_le hO hk0.size; clear hu) | (go_at_call 45; (with_reducible refine (newBuf_c _ _ _ _).mono ?_); rintro e w2 ⟨rfl, rfl⟩) | (go_at_call 15; (with_reducible refine (newEnc_c _ _).mono ?_); rintro e w3 ⟨rfl, rfl⟩) | (go_at_call 16; (with_reducible refine (setOrd_c _ (w1.heap.size + 1 + 1) _ _ (by simp) (by simp [go_sem]) (by simp) 0 (by simp [go_sem]) (by simp [go_sem])).mono ?_); rintro e w4 ⟨rfl, rfl⟩) | (go_at_call 19; (with_reducible refine (wkbEnc_c _ (w1.heap.size + 1 + 1) (w1.heap.size + 1) (w1.heap.size, w1.heap.size) L big [] bs _ _ (by simp) (by simp [go_sem]) (HE.out _ (by repeat (first | (with_reducible exact Kp.refl _) | (with_reducible assumption) | (with_reducible apply Kp.ext) | (with_reducible apply Kp.alloc) | (with_reducible apply Kp.drew) | (with_reducible apply Kp.drewN) | (with_reducible refine Kp.setCell ?_ (by first | (dsimp only; omega) | (simp; omega) | (simp; done) | (simp [size_ext_eq]; omega)) _))) _ _ _ (by have := hk0.size; omega) (by have := hk0.size; omega) ⟨hk0.size, hk0.size⟩ (encN_new w1 L hlen big _ (by simp [size_madeCells]) _ _ _ _ _ rfl rfl))).mono ?_); rintro e w5 ⟨gb, rfl, hgb, he5, hk5⟩; rw [List.nil_append] at he5; have k5 : Kp w w5 := (hk5.kp (w0 := w) (by repeat (first | (with_reducible exact Kp.refl _) | (with_reducible assumption) | (with_reducible apply Kp.ext) | (with_reducible apply Kp.alloc) | (with_reducible apply Kp.drew) | (with_reducible apply Kp.drewN) | (with_reducible refine Kp.setCell ?_ (by first | (dsimp only; omega) | (simp; omega) | (simp; done) | (simp [size_ext_eq]; omega)) _))) (by intro b hb; have := hk0.size; simp at hb hgb; omega) (by have := hk0.size; omega) hk0.size hk0.size); obtain ⟨gq, cq, hq0, hq1, hq2, hlt5, hq4, hq5, hb5⟩ := he5.buf.bytes (by rw [HL.out]; exact hpos); have hgq : w.heap.size ≤ gq := Nat.le_trans hk0.size (hq1.elim (fun e => Nat.le_of_eq e.symm) id); have hqb := he5.buf.b1; have hltB := he5.buf.lt; have HLn := Lib.hid (fun w' (k : Kp w5 w') => len_at HL.out (bufLen_c _ _ _ _ w' (he5.kp k).buf)); have HBy := Lib.hid (fun w' (k : Kp w5 w') => bytes_at HL.out (bufBytes_c _ gq _ cq w' (Nat.lt_of_lt_of_le hltB k.size) (Kp.cell k hq0 hltB) (Kp.cell k hqb hltB) hq4 hq5)); have Hb5 := Lib.hid hb5; clear he5 hk5 hgb hb5 hq0 hqb hq1 hq2) | (go_at_call 47; (first | (with_reducible refine (Ret.at_ext (HLn.out _ (by repeat (first | (with_reducible exact Kp.refl _) | (with_reducible assumption) | (with_reducible apply Kp.ext) | (with_reducible apply Kp.alloc) | (with_reducible apply Kp.drew) | (with_reducible apply Kp.drewN) | (with_reducible refine Kp.setCell ?_ (by first | (dsimp only; omega) | (simp; omega) | (simp; done) | (simp [size_ext_eq]; omega)) _))))).mono ?_) | (with_reducible refine (HLn.out _ (by repeat (first | (with_reducible exact Kp.refl _) | (with_reducible assumption) | (with_reducible apply Kp.ext) | (with_reducible apply Kp.alloc) | (with_reducible apply Kp.drew) | (with_reducible apply Kp.drewN) | (with_reducible refine Kp.setCell ?_ (by first | (dsimp only; omega) | (simp; omega) | (simp; done) | (simp [size_ext_eq]; omega)) _)))).mono ?_)); rintro e w' ⟨rfl, u, rfl⟩) | (go_at_call 20; (first | (with_reducible refine (Ret.at_ext (HBy.out _ (by repeat (first | (with_reducible exact Kp.refl _) | (with_reducible assumption) | (with_reducible apply Kp.ext) | (with_reducible apply Kp.alloc) | (with_reducible apply Kp.drew) | (with_reducible apply Kp.drewN) | (with_reducible refine Kp.setCell ?_ (by first | (dsimp only; omega) | (simp; omega) | (simp; done) | (simp [size_ext_eq]; omega)) _))))).mono ?_) | (with_reducible refine (HBy.out _ (by repeat (first | (with_reducible exact Kp.refl _) | (with_reducible assumption) | (with_reducible apply Kp.ext) | (with_reducible apply Kp.alloc) | (with_reducible apply Kp.drew) | (with_reducible apply Kp.drewN) | (with_reducible refine Kp.setCell ?_ (by first | (dsimp only; omega) | (simp; omega) | (simp; done) | (simp [size_ext_eq]; omega)) _)))).mono ?_)); rintro e w' ⟨rfl, u, rfl⟩))
  refine bodyPost_ret (v := .tuple #[.slice (some ⟨gq, 0, none⟩) L cq, .nilIface]) (by simp [results, Tryz.results30, go_sem]) rfl ?_
  refine ⟨gq, cq, _, by rw [HL.out], ext_of (show Kp w _ from (by repeat (first | (with_reducible exact Kp.refl _) | (with_reducible assumption) | (with_reducible apply Kp.ext) | (with_reducible apply Kp.alloc) | (with_reducible apply Kp.drew) | (with_reducible apply Kp.drewN) | (with_reducible refine Kp.setCell ?_ (by first | (dsimp only; omega) | (simp; omega) | (simp; done) | (simp [size_ext_eq]; omega)) _)))), hgq, ?_, hq4, Hb5.out.kp hlt5 (by repeat (first | (with_reducible exact Kp.refl _) | (with_reducible assumption) | (with_reducible apply Kp.ext) | (with_reducible apply Kp.alloc) | (with_reducible apply Kp.drew) | (with_reducible apply Kp.drewN) | (with_reducible refine Kp.setCell ?_ (by first | (dsimp only; omega) | (simp; omega) | (simp; done) | (simp [size_ext_eq]; omega)) _)))⟩
  exact Nat.lt_of_lt_of_le hlt5 (Kp.size (show Kp w5 _ from (by repeat (first | (with_reducible exact Kp.refl _) | (with_reducible assumption) | (with_reducible apply Kp.ext) | (with_reducible apply Kp.alloc) | (with_reducible apply Kp.drew) | (with_reducible apply Kp.drewN) | (with_reducible refine Kp.setCell ?_ (by first | (dsimp only; omega) | (simp; omega) | (simp; done) | (simp [size_ext_eq]; omega)) _)))))
end Go.Proofs.YtobdohhabgnjiaaGreatDoor

set_option linter.all false
namespace Go.Proofs.YtobdohhabgnjiaaGreatDoor
open PubFl Go.RowKit

attribute [local go_sem] cell_ext frozen_ext ext_setCell cell_store size_ext_eq lt_p0 lt_p1 lt_p2 lt_p3 lt_p4 lt_p5 lt_p6 lt_p7 lt_p8 lt_p9 lt_p10 lt_p11 lt_p12 lt_p13 lt_p14 lt_p15 lt_p16 lt_p17 lt_p18 lt_p19 lt_p20 lt_p21 lt_p22 lt_p23 lt_p24 lt_p25 lt_p26 lt_p27 lt_p28 lt_p29 lt_p30 lt_p31 lt_p32 lt_q1 lt_q2 lt_q3 lt_q4 lt_q5 lt_q6 lt_q7 lt_q8 lt_q9 lt_q10 lt_q11 lt_q12 lt_q13 lt_q14 lt_q15 lt_q16 lt_q17 lt_q18 lt_q19 lt_q20 lt_q21 lt_q22 lt_q23 lt_q24 lt_q25 lt_q26 lt_q27 lt_q28 lt_q29 lt_q30 lt_q31 lt_q32 run_fop run_store_float
attribute [local go_sem high] cmp_eql cmp_neq cmp_lss cmp_leq cmp_gtr cmp_geq

theorem order_c (big : Bool) (w : World) : Calls Tryz.prog 17 #[.bool big] w (Ret w (.int .u8 (ordN big))) := by
  cases big
  · go_enter Tryz.func17, Tryz.ntmps17
    go_wp2_with fail
    go_ret
    exact Ret.mk rfl (by repeat (first | (with_reducible exact Kp.refl _) | (with_reducible assumption) | (with_reducible apply Kp.ext) | (with_reducible apply Kp.alloc) | (with_reducible apply Kp.drew) | (with_reducible apply Kp.drewN) | (with_reducible refine Kp.setCell ?_ (by first | (dsimp only; omega) | (simp; omega) | (simp; done) | (simp [size_ext_eq]; omega)) _)))
  · go_enter Tryz.func17, Tryz.ntmps17
    go_wp2_with fail
    go_ret
    exact Ret.mk rfl (by repeat (first | (with_reducible exact Kp.refl _) | (with_reducible assumption) | (with_reducible apply Kp.ext) | (with_reducible apply Kp.alloc) | (with_reducible apply Kp.drew) | (with_reducible apply Kp.drewN) | (with_reducible refine Kp.setCell ?_ (by first | (dsimp only; omega) | (simp; omega) | (simp; done) | (simp [size_ext_eq]; omega)) _)))
/-- what Encode hands back: these bytes, in a row of their own -/
def RetEnc (w : World) (bs : List Nat) (e : Ending) (w' : World) : Prop := ∃ v u, e = .returned (.tuple #[v, .bool true]) ∧ w' = ext w u ∧ OwnB w.heap.size w' v bs
set_option maxRecDepth 20000 in
set_option maxHeartbeats 2000000 in
theorem encode_c (big : Bool) (d : Nat) (hd : d ≤ 3) (s : Sh) (lv pv : Value) (w : World) (hs : ShIn (d + 1) w lv pv s) (hok : cntOk (d + 1) s = true) (hsm : Small (d + 1) s) :
    Calls Tryz.prog 12 #[.agg #[.int .i64 s.kind, lv, pv], .bool big] w (RetEnc w (formSh (d + 1) s 0 big false)) := by
  have hbits := hs.bits
  have HG := Lib.hid (fun w' (k : Kp w w') => geometry_c (d + 1) s lv pv w' (hs.kp k) hok hsm)
  have hlen : (formSh (d + 1) s 0 big false).length ≤ 1000000000000 := by
    have h1 := formSh_len (d := d + 1) 0 big false hok hsm
    have h2 : 41 ^ (d + 1) ≤ 41 ^ 4 := Nat.pow_le_pow_right (by decide) (by omega)
    have h3 : 200000 * 41 ^ (d + 1) ≤ 200000 * 41 ^ 4 := Nat.mul_le_mul_left _ h2
    exact Nat.le_trans h1 (Nat.le_trans h3 (by decide))
  have HM := Lib.hid (fun (w0 : World) (lo hi : Nat) (v : Value) (gO cO : Nat) (w' : World) (hg : GeoB (d + 1) lo hi w0 v s) (hle : hi ≤ w0.heap.size) (k : Kp w0 w') (hO : gO < w'.heap.size) (hcO : w'.cell? ⟨gO, 0, none⟩ = some (.int .u8 (ordN big))) =>
    marshal_c big d hd s lo hi v gO cO w' (GeoB.keep hg (Agree.of_kp k hle) k.size) hok hsm hbits (Nat.le_trans hle k.size) hO hcO)
  obtain ⟨i0, hi, hz0, hz1, hz2⟩ := info_parts infoU8
  obtain ⟨⟨q1, m1, d1, rfl⟩, q2, m2, d2, rfl⟩ := hs.form
  generalize formSh (d + 1) s 0 big false = bs at *
  generalize s.kind = K at *
  obtain ⟨L, hL⟩ : ∃ L, bs.length = L := ⟨_, rfl⟩
  rw [hL] at hlen
  have HL := Lib.hid hL
  clear hs hok hsm hbits hL
  go_enter Tryz.func12, Tryz.ntmps12
  go_wp2_with (first | (go_at_call 18; (with_reducible refine (HG.out _ (by repeat (first | (with_reducible exact Kp.refl _) | (with_reducible assumption) | (with_reducible apply Kp.ext) | (with_reducible apply Kp.alloc) | (with_reducible apply Kp.drew) | (with_reducible apply Kp.drewN) | (with_reducible refine Kp.setCell ?_ (by first | (dsimp only; omega) | (simp; omega) | (simp; done) | (simp [size_ext_eq]; omega)) _)))).mono ?_); rintro e w1 ⟨v, u, rfl, hu, hg⟩; have hk0 : Kp w w1 := (by rw [hu]; exact (by repeat (first | (with_reducible exact Kp.refl _) | (with_reducible assumption) | (with_reducible apply Kp.ext) | (with_reducible apply Kp.alloc) | (with_reducible apply Kp.drew) | (with_reducible apply Kp.drewN) | (with_reducible refine Kp.setCell ?_ (by first | (dsimp only; omega) | (simp; omega) | (simp; done) | (simp [size_ext_eq]; omega)) _)))); clear hu; obtain ⟨tv, uv, rfl⟩ := hg.iface; have Hg := Lib.hid hg; clear hg) | (go_at_call 17; (first | (with_reducible refine (Ret.at_ext (order_c _ _)).mono ?_) | (with_reducible refine (order_c _ _).mono ?_)); rintro e w' ⟨rfl, u, rfl⟩) | (go_at_call 30; (with_reducible refine (HM.out w1 _ _ _ _ _ _ Hg.out (Nat.le_refl _) (by repeat (first | (with_reducible exact Kp.refl _) | (with_reducible assumption) | (with_reducible apply Kp.ext) | (with_reducible apply Kp.alloc) | (with_reducible apply Kp.drew) | (with_reducible apply Kp.drewN) | (with_reducible refine Kp.setCell ?_ (by first | (dsimp only; omega) | (simp; omega) | (simp; done) | (simp [size_ext_eq]; omega)) _))) (by simp [size_ext_eq]) (by simp [go_sem])).mono ?_); rintro e w2 ⟨gM, cM, u2, rfl, hu2, hgM, hlM, hcM, hbM⟩; have hk2 : Kp w1 w2 := (by rw [hu2]; exact (by repeat (first | (with_reducible exact Kp.refl _) | (with_reducible assumption) | (with_reducible apply Kp.ext) | (with_reducible apply Kp.alloc) | (with_reducible apply Kp.drew) | (with_reducible apply Kp.drewN) | (with_reducible refine Kp.setCell ?_ (by first | (dsimp only; omega) | (simp; omega) | (simp; done) | (simp [size_ext_eq]; omega)) _)))); rw [HL.out]; rw [HL.out] at hcM; have HbM := Lib.hid hbM; clear hu2 hbM))
  have hrow : ∀ W, Kp (w2.drew.alloc (.cells #[] 5)) W → W.ownsRow w2.heap.size 5 1 (.slice (some ⟨w2.heap.size, 0, none⟩) 0 0) 0 [] := fun W k => own_kp (World.ownsRow_lit w2.drew #[] 0 (Nat.le_refl _) (by decide) rfl) k
  have hk2w : Kp w w2 := hk0.trans hk2
  go_region_law (refine step_append_own2 rfl (.tmp 21) (.tmp 22) 25 rfl w2.heap.size 5 i0 (.int .u8 0) 1 1 Tryz.underlying25 hi hz0 hz1 hz2 rfl (by decide) (.slice (some ⟨w2.heap.size, 0, none⟩) 0 0) 0 [] (by first | rfl | (simp [Act.eval, Act.put]; done)) (hrow _ (Kp.refl _)) ⟨gM, 0, none⟩ L cM (bc bs) (by first | rfl | (simp [Act.eval, Act.put]; done)) (by rw [bc_length, HL.out]; omega) (BytesAt.cells (HbM.out.kp hlM ((Kp.refl w2).drew.alloc _))) (bc_one bs) (by unfold maxLen; omega) (by omega) (by first | (simp; done) | (simp; omega)) ?_; intro v' w3 hown hgrow hblk)
  have hb2 : Kp w w3 := Below.grown ((hk2w.drew).alloc _) hgrow (Nat.le_trans hk2w.size (by simp)) (fun q hq => by injection hq with hq; rw [← hq]; exact hk2w.size)
  have HO := Lib.hid (show OwnB w.heap.size w3 v' bs from ⟨by
    have h := own_base hown hk2w.size
    have e : ([] : List Value) ++ bc bs = bc bs := rfl
    rw [e, Nat.zero_add] at h
    rw [HL.out]; exact h, by rcases hblk with e | e <;> exact ⟨_, e.trans rfl⟩⟩)
  clear hown hgrow hblk hrow
  go_wp2_with fail
  refine bodyPost_ret (v := .tuple #[v', .bool true]) (by simp [results, Tryz.results12, go_sem]) rfl ?_
  exact ⟨v', _, rfl, ext_of hb2, HO.out⟩
end Go.Proofs.YtobdohhabgnjiaaGreatDoor
