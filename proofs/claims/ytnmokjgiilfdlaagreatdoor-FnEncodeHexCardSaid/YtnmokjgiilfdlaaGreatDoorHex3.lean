/-
  The bytes of a form are bytes; wkb.MarshalToHex; impl.EncodeHex.
-/
import Derived.Test.YtnmokjgiilfdlaaGreatDoorMHex
set_option linter.all false
namespace Go.Proofs.YtnmokjgiilfdlaaGreatDoor
open PubFl Go.RowKit

attribute [local go_sem] cell_ext frozen_ext ext_setCell cell_store size_ext_eq lt_p0 lt_p1 lt_p2 lt_p3 lt_p4 lt_p5 lt_p6 lt_p7 lt_p8 lt_p9 lt_p10 lt_p11 lt_p12 lt_p13 lt_p14 lt_p15 lt_p16 lt_p17 lt_p18 lt_p19 lt_p20 lt_p21 lt_p22 lt_p23 lt_p24 lt_p25 lt_p26 lt_p27 lt_p28 lt_p29 lt_p30 lt_p31 lt_p32 lt_q1 lt_q2 lt_q3 lt_q4 lt_q5 lt_q6 lt_q7 lt_q8 lt_q9 lt_q10 lt_q11 lt_q12 lt_q13 lt_q14 lt_q15 lt_q16 lt_q17 lt_q18 lt_q19 lt_q20 lt_q21 lt_q22 lt_q23 lt_q24 lt_q25 lt_q26 lt_q27 lt_q28 lt_q29 lt_q30 lt_q31 lt_q32 run_fop run_store_float
attribute [local go_sem high] cmp_eql cmp_neq cmp_lss cmp_leq cmp_gtr cmp_geq

/-- all of them are bytes -/
def AllB (bs : List Nat) : Prop := ∀ x ∈ bs, x < 256
theorem AllB.append {as' bs : List Nat} (h : AllB as') (k : AllB bs) : AllB (as' ++ bs) := fun x hx => (List.mem_append.1 hx).elim (h x) (k x)
theorem num32_allB {n : Nat} (h : n < 4294967296) (big : Bool) : AllB (num32 n big) := by
  intro x hx
  unfold num32 at hx
  cases big <;> simp at hx <;> omega
theorem num64_allB {n : Nat} (h : n < 2 ^ 64) (big : Bool) : AllB (num64 n big) := by
  unfold num64
  cases big
  · exact AllB.append (num32_allB (Nat.mod_lt _ (by decide)) _) (num32_allB (by omega) _)
  · exact AllB.append (num32_allB (by omega) _) (num32_allB (Nat.mod_lt _ (by decide)) _)
theorem pts_allB {ps : List (Nat × Nat)} (h : Bits ps) (big : Bool) : AllB (ptsForm ps big) := by
  intro x hx
  unfold ptsForm at hx
  obtain ⟨p, hp, hx⟩ := List.mem_flatMap.1 hx
  obtain ⟨i, hi, rfl⟩ := List.mem_iff_getElem.1 hp
  exact AllB.append (num64_allB (h i hi).1 big) (num64_allB (h i hi).2 big) x hx
theorem head_allB {k s : Nat} (hk : k ≤ 7) (hs : s ≤ 999999) (big : Bool) : AllB (headB k s big) := by
  unfold headB
  intro x hx
  rcases List.mem_cons.1 hx with rfl | hx
  · cases big <;> decide
  · split at hx
    · exact num32_allB (by omega) big x hx
    · exact AllB.append (num32_allB (by omega) big) (num32_allB (by omega) big) x hx
theorem acc_allB {acc : List Nat} {f : Nat → List Nat} (h : AllB acc) : ∀ {k : Nat}, (∀ i, i < k → AllB (f i)) → AllB (accB acc f k)
  | 0, _ => h
  | k + 1, hf => AllB.append (acc_allB h fun i hi => hf i (by omega)) (hf k (by omega))
theorem getD_bitsB {ls : List (List (Nat × Nat))} (h : ∀ l ∈ ls, Bits l) (i : Nat) : Bits (ls.getD i []) := by
  rw [List.getD_eq_getElem?_getD]
  cases c : ls[i]? with
  | none => intro j hj; simp at hj
  | some l => exact h l (List.mem_of_getElem? c)
theorem one_bits {ps : List (Nat × Nat)} (h : Bits ps) (i : Nat) : Bits [ps.getD i (0, 0)] := by
  intro j hj
  have hj0 : j = 0 := by simp at hj; omega
  subst hj0
  rw [List.getD_eq_getElem?_getD]
  show (ps[i]?.getD (0, 0)).1 < 2 ^ 64 ∧ (ps[i]?.getD (0, 0)).2 < 2 ^ 64
  rcases Nat.lt_or_ge i ps.length with c | c
  · rw [List.getElem?_eq_getElem c]; exact h i c
  · rw [List.getElem?_eq_none c]; decide
theorem form_allB : ∀ {d : Nat} {s : Sh} (sys : Nat) (_ : sys ≤ 999999) (big turns : Bool), cntOk d s = true → Small d s → BitsSh d s → AllB (formSh d s sys big turns)
  | 0, _, _, _, _, _, h, _, _ => by cases h
  | d + 1, s, sys, hsys, big, turns, hok, hsm, hb => by
    obtain ⟨h1, h2, h3⟩ := cntOk_parts hok
    obtain ⟨k1, k2, k3, k4⟩ := shHead_spec h1
    have hg := fun i => getD_le hsm.1 i
    have hbt := fun i => getD_bitsB hb.1 i
    have hrec : ∀ i, i < s.parts.length → AllB (formSh d (s.parts.getD i dsh) 0 (!(big == turns)) turns) := fun i hi =>
      form_allB 0 (by decide) _ _ (h2 _ (mem_getD' hi)).1 (hsm.2 _ (mem_getD' hi)) (hb.2 _ (mem_getD' hi))
    rcases (show s.kind = 1 ∨ s.kind = 2 ∨ s.kind = 3 ∨ s.kind = 4 ∨ s.kind = 5 ∨ s.kind = 6 ∨ s.kind = 7 by omega) with hK | hK | hK | hK | hK | hK | hK
    · rw [formSh_1 hK]
      exact (head_allB (by decide) hsys _).append (pts_allB (hbt 0) _)
    · rw [formSh_2 hK]
      have := hg 0
      exact ((head_allB (by decide) hsys _).append (num32_allB (by omega) _)).append (pts_allB (hbt 0) _)
    · rw [formSh_3 hK]
      refine acc_allB ((head_allB (by decide) hsys _).append (num32_allB (by omega) _)) fun i _ => ?_
      have := hg i
      exact (num32_allB (by omega) _).append (pts_allB (hbt i) _)
    · rw [formSh_4 hK]
      have := hg 0
      exact acc_allB ((head_allB (by decide) hsys _).append (num32_allB (by omega) _)) fun i _ => (head_allB (by decide) (by decide) _).append (pts_allB (one_bits (hbt 0) i) _)
    · rw [formSh_5 hK]
      refine acc_allB ((head_allB (by decide) hsys _).append (num32_allB (by omega) _)) fun i _ => ?_
      have := hg i
      exact ((head_allB (by decide) (by decide) _).append (num32_allB (by omega) _)).append (pts_allB (hbt i) _)
    · rw [formSh_6 hK]
      exact acc_allB ((head_allB (by decide) hsys _).append (num32_allB (by omega) _)) hrec
    · rw [formSh_7 hK]
      exact acc_allB ((head_allB (by decide) hsys _).append (num32_allB (by omega) _)) hrec

/-- what a call hands back: a value and no error -/
def RetOk (w : World) (v : Value) (e : Ending) (w' : World) : Prop := ∃ u, e = .returned (.tuple #[v, .nilIface]) ∧ w' = ext w u
set_option maxRecDepth 20000 in
set_option maxHeartbeats 1000000 in
theorem toHex_c (v sv : Value) (bs : List Nat) (L : Nat) (hL : L = bs.length) (hb : AllB bs) (hlen : L ≤ 1000000000000) (w : World) (h : Calls Tryz.prog 39 #[v, sv] w (RetMar w bs)) :
    Calls Tryz.prog 42 #[v, sv] w (RetOk w (strB (hexL bs))) := by
  have HM := Lib.hid h
  have HX := Lib.hid (fun (g c : Nat) (w' : World) (hg : g < w'.heap.size) (ha : BytesAt w' g 0 bs) => hexStr_c g 0 L c bs hL hlen hb w' hg ha)
  have HL := Lib.hid hL
  clear h hL hb
  generalize strB (hexL bs) = tv at *
  go_enter Tryz.func42, Tryz.ntmps42
  go_wp2_with (first | (go_at_call 39; (with_reducible refine (HM.out).mono ?_); rintro e w1 ⟨g, c, u, rfl, hu, _, hg, _, hat⟩; have hk1 : Kp w w1 := (by rw [hu]; exact (by repeat (first | (with_reducible exact Kp.refl _) | (with_reducible assumption) | (with_reducible apply Kp.ext) | (with_reducible apply Kp.alloc) | (with_reducible apply Kp.drew) | (with_reducible apply Kp.drewN) | (with_reducible refine Kp.setCell ?_ (by first | (dsimp only; omega) | (simp; omega) | (simp; done) | (simp [size_ext_eq]; omega)) _)))); rw [← HL.out]; have Hat := Lib.hid hat; clear hu hat) | (go_at_call 64; (first | (with_reducible refine (Ret.at_ext (HX.out _ _ _ hg Hat.out)).mono ?_) | (with_reducible refine (HX.out _ _ _ hg Hat.out).mono ?_)); rintro e w' ⟨rfl, u, rfl⟩))
  refine bodyPost_ret (v := .tuple #[tv, .nilIface]) (by simp [results, Tryz.results42, go_sem]) rfl ?_
  exact ⟨_, rfl, ext_of (show Kp w _ from (by repeat (first | (with_reducible exact Kp.refl _) | (with_reducible assumption) | (with_reducible apply Kp.ext) | (with_reducible apply Kp.alloc) | (with_reducible apply Kp.drew) | (with_reducible apply Kp.drewN) | (with_reducible refine Kp.setCell ?_ (by first | (dsimp only; omega) | (simp; omega) | (simp; done) | (simp [size_ext_eq]; omega)) _))))⟩
/-- what a call hands back: a value, and true -/
def RetYes (w : World) (v : Value) (e : Ending) (w' : World) : Prop := ∃ u, e = .returned (.tuple #[v, .bool true]) ∧ w' = ext w u
set_option maxRecDepth 20000 in
set_option maxHeartbeats 2000000 in
theorem encodeHex_c (big : Bool) (d : Nat) (hd : d ≤ 3) (s : Sh) (lv pv : Value) (w : World) (hs : ShIn (d + 1) w lv pv s) (hok : cntOk (d + 1) s = true) (hsm : Small (d + 1) s) :
    Calls Tryz.prog 23 #[.agg #[.int .i64 s.kind, lv, pv], .bool big] w (RetYes w (strB (hexL (formSh (d + 1) s 0 big false)))) := by
  have hbits := hs.bits
  have HG := Lib.hid (fun w' (k : Kp w w') => geometry_c (d + 1) s lv pv w' (hs.kp k) hok hsm)
  have hlen : (formSh (d + 1) s 0 big false).length ≤ 1000000000000 := by
    have h1 := formSh_len (d := d + 1) 0 big false hok hsm
    have h2 : 41 ^ (d + 1) ≤ 41 ^ 4 := Nat.pow_le_pow_right (by decide) (by omega)
    have h3 : 200000 * 41 ^ (d + 1) ≤ 200000 * 41 ^ 4 := Nat.mul_le_mul_left _ h2
    exact Nat.le_trans h1 (Nat.le_trans h3 (by decide))
  have hall := form_allB 0 (by decide) big false hok hsm hbits
  have HM := Lib.hid (fun (w0 : World) (lo hi : Nat) (v : Value) (gO cO : Nat) (w' : World) (hg : GeoB (d + 1) lo hi w0 v s) (hle : hi ≤ w0.heap.size) (k : Kp w0 w') (hO : gO < w'.heap.size) (hcO : w'.cell? ⟨gO, 0, none⟩ = some (.int .u8 (ordN big))) =>
    toHex_c v _ _ _ rfl hall hlen w' (marshal_c big d hd s lo hi v gO cO w' (GeoB.keep hg (Agree.of_kp k hle) k.size) hok hsm hbits (Nat.le_trans hle k.size) hO hcO))
  obtain ⟨⟨q1, m1, d1, rfl⟩, q2, m2, d2, rfl⟩ := hs.form
  generalize strB (hexL (formSh (d + 1) s 0 big false)) = xv at *
  generalize s.kind = K at *
  clear hs hok hsm hbits hall hlen
  go_enter Tryz.func23, Tryz.ntmps23
  go_wp2_with (first | (go_at_call 38; (with_reducible refine (HG.out _ (by repeat (first | (with_reducible exact Kp.refl _) | (with_reducible assumption) | (with_reducible apply Kp.ext) | (with_reducible apply Kp.alloc) | (with_reducible apply Kp.drew) | (with_reducible apply Kp.drewN) | (with_reducible refine Kp.setCell ?_ (by first | (dsimp only; omega) | (simp; omega) | (simp; done) | (simp [size_ext_eq]; omega)) _)))).mono ?_); rintro e w1 ⟨v, u, rfl, hu, hg⟩; have hk0 : Kp w w1 := (by rw [hu]; exact (by repeat (first | (with_reducible exact Kp.refl _) | (with_reducible assumption) | (with_reducible apply Kp.ext) | (with_reducible apply Kp.alloc) | (with_reducible apply Kp.drew) | (with_reducible apply Kp.drewN) | (with_reducible refine Kp.setCell ?_ (by first | (dsimp only; omega) | (simp; omega) | (simp; done) | (simp [size_ext_eq]; omega)) _)))); clear hu; obtain ⟨tv, uv, rfl⟩ := hg.iface; have Hg := Lib.hid hg; clear hg) | (go_at_call 40; (first | (with_reducible refine (Ret.at_ext (order_c _ _)).mono ?_) | (with_reducible refine (order_c _ _).mono ?_)); rintro e w' ⟨rfl, u, rfl⟩) | (go_at_call 42; (with_reducible refine (HM.out w1 _ _ _ _ _ _ Hg.out (Nat.le_refl _) (by repeat (first | (with_reducible exact Kp.refl _) | (with_reducible assumption) | (with_reducible apply Kp.ext) | (with_reducible apply Kp.alloc) | (with_reducible apply Kp.drew) | (with_reducible apply Kp.drewN) | (with_reducible refine Kp.setCell ?_ (by first | (dsimp only; omega) | (simp; omega) | (simp; done) | (simp [size_ext_eq]; omega)) _))) (by simp [size_ext_eq]) (by simp [go_sem])).mono ?_); rintro e w2 ⟨u2, rfl, hu2⟩; have hk2 : Kp w1 w2 := (by rw [hu2]; exact (by repeat (first | (with_reducible exact Kp.refl _) | (with_reducible assumption) | (with_reducible apply Kp.ext) | (with_reducible apply Kp.alloc) | (with_reducible apply Kp.drew) | (with_reducible apply Kp.drewN) | (with_reducible refine Kp.setCell ?_ (by first | (dsimp only; omega) | (simp; omega) | (simp; done) | (simp [size_ext_eq]; omega)) _)))); clear hu2))
  have hk2w : Kp w w2 := hk0.trans hk2
  first | (with_reducible refine wp_region_ext_lit2 ?_ ?_ ?_) | refine wp_region_ext_lit ?_ ?_ ?_
  kernel_rfl
  kernel_rfl
  repeat (go_big_quiet_step (fail))
  refine wpQuiet_nil ?_
  rintro _ ⟨u, rfl⟩
  go_wp2_with fail
  refine bodyPost_ret (v := .tuple #[xv, .bool true]) (by simp [results, Tryz.results23, go_sem]) rfl ?_
  exact ⟨_, rfl, ext_of (show Kp w _ from (by repeat (first | (with_reducible exact Kp.refl _) | (with_reducible assumption) | (with_reducible apply Kp.ext) | (with_reducible apply Kp.alloc) | (with_reducible apply Kp.drew) | (with_reducible apply Kp.drewN) | (with_reducible refine Kp.setCell ?_ (by first | (dsimp only; omega) | (simp; omega) | (simp; done) | (simp [size_ext_eq]; omega)) _))))⟩
end Go.Proofs.YtnmokjgiilfdlaaGreatDoor
