/-
  laws.encodes: a small line is encoded, and decoded.
-/
import Derived.Test.YtobdohhabgnjiaaGreatDoorMDecB
import Derived.Test.YtobdohhabgnjiaaGreatDoorMGrB
import Derived.Test.YtobdohhabgnjiaaGreatDoorSameS
import Derived.Deep.DrawnRows
set_option linter.unnecessarySimpa false
set_option linter.all false
namespace Go.Proofs.YtobdohhabgnjiaaGreatDoor
open PubFl Go.RowKit

attribute [local go_sem] cell_ext frozen_ext ext_setCell cell_store size_ext_eq lt_p0 lt_p1 lt_p2 lt_p3 lt_p4 lt_p5 lt_p6 lt_p7 lt_p8 lt_p9 lt_p10 lt_p11 lt_p12 lt_p13 lt_p14 lt_p15 lt_p16 lt_p17 lt_p18 lt_p19 lt_p20 lt_p21 lt_p22 lt_p23 lt_p24 lt_p25 lt_p26 lt_p27 lt_p28 lt_p29 lt_p30 lt_p31 lt_p32 lt_q1 lt_q2 lt_q3 lt_q4 lt_q5 lt_q6 lt_q7 lt_q8 lt_q9 lt_q10 lt_q11 lt_q12 lt_q13 lt_q14 lt_q15 lt_q16 lt_q17 lt_q18 lt_q19 lt_q20 lt_q21 lt_q22 lt_q23 lt_q24 lt_q25 lt_q26 lt_q27 lt_q28 lt_q29 lt_q30 lt_q31 lt_q32 run_fop run_store_float
attribute [local go_sem high] cmp_eql cmp_neq cmp_lss cmp_leq cmp_gtr cmp_geq

theorem plainSh_bits : BitsSh 4 plainSh := ⟨fun l hl => by
  have e : plainSh.lists = [plainPts] := rfl
  rw [e] at hl
  obtain rfl := List.mem_singleton.1 hl
  exact plain_bits, fun p hp => by
  have e : plainSh.parts = [] := rfl
  rw [e] at hp
  cases hp⟩
theorem RetDec.shIn {d : Nat} {s : Sh} {lo hi : Nat} {w w' : World} {lv pv : Value} (h : ShB d lo hi w lv pv s) (hb : BitsSh d s) (hok : cntOk d s = true) (hsm : Small d s) (k : Kp w w') (hh : hi ≤ w.heap.size) : ShIn d w' lv pv s :=
  ShB.shIn (ShB.keep h (Agree.of_kp k hh) k.size) hb hok hsm
set_option maxRecDepth 20000 in
set_option maxHeartbeats 4000000 in
theorem encodes_c (w : World) (hG : Gls w) : Calls Tryz.prog 5 #[] w (Ret w (.bool true)) := by
  have hok := (isSh_facts plain_ok).1
  have hsm := (isSh_facts plain_ok).2
  have hE : ∀ lv pv w', ShIn 4 w' lv pv plainSh → Calls Tryz.prog 12 #[.agg #[.int .i64 2, lv, pv], .bool false] w' (RetEnc w' (formSh 4 plainSh 0 false false)) := fun lv pv w' h => encode_c false 3 (by decide) plainSh lv pv w' h hok hsm
  have hlen : (formSh 4 plainSh 0 false false).length ≤ 1000000000000 := by
    have h1 := formSh_len (d := 4) 0 false false hok hsm
    exact Nat.le_trans h1 (by decide)
  have hD : ∀ g n c w', Kp w w' → n = (formSh 4 plainSh 0 false false).length → n ≤ c → g < w'.heap.size → BytesAt w' g 0 (formSh 4 plainSh 0 false false) → Calls Tryz.prog 14 #[.slice (some ⟨g, 0, none⟩) n c] w' (RetDec true 4 plainSh w') := fun g n c w' k hn hc hg hb =>
    decForm_c true 3 plainSh hok hsm plainSh_bits false false [] _ (.inl ⟨rfl, by rw [List.append_nil]⟩) _ n c hn hc (by omega) w' (.inr ⟨g, 0, rfl, hg, hb⟩) (hG.kp k) (fun _ h => by cases h)
  have hB : ∀ a c w', Kp w w' → Calls Tryz.prog 14 #[.slice a 1 c] w' (RetDec false 4 plainSh w') := fun a c w' k =>
    decBad_c 4 plainSh _ w' (hG.kp k) (fun w2 k2 => un_err _ w2 (ubot_err _ w2 (bot_short a 1 c (by decide) w2 ((hG.kp k).kp k2).notW))) hok hsm
  have hS : ∀ lv pv lv' pv' w', ShIn 4 w' lv pv plainSh → ShIn 4 w' lv' pv' plainSh → Calls Tryz.prog 10 #[.agg #[.int .i64 2, lv, pv], .agg #[.int .i64 2, lv', pv']] w' (Ret w' (.bool true)) := fun lv pv lv' pv' w' h1 h2 => sameShape_c 4 plainSh lv pv lv' pv' w' h1 h2 hok hsm
  generalize formSh 4 plainSh 0 false false = bs at *
  have HE := Lib.hid hE
  have HD := Lib.hid hD
  have HB := Lib.hid hB
  have HS := Lib.hid hS
  clear hE hD hB hS hlen
  go_enter Tryz.func5, Tryz.ntmps5
  have hk2 : plainSh.kind = 2 := rfl
  go_wp2_with (first | (go_at_call 13; (with_reducible refine (plain_c _).mono ?_); rintro e w1 ⟨lv, pv, u, rfl, hu, hin⟩; have k1 : Kp w w1 := (by rw [hu]; exact (by repeat (first | (with_reducible exact Kp.refl _) | (with_reducible assumption) | (with_reducible apply Kp.ext) | (with_reducible apply Kp.alloc) | (with_reducible apply Kp.drew) | (with_reducible apply Kp.drewN) | (with_reducible refine Kp.setCell ?_ (by first | (dsimp only; omega) | (simp; omega) | (simp; done) | (simp [size_ext_eq]; omega)) _)))); have Hin := Lib.hid hin; clear hin hu) | (go_at_call 12; (with_reducible refine (HE.out _ _ _ (Hin.out)).mono ?_); rintro e w2 ⟨v, u2, rfl, hu, ho⟩; have k2 : Kp w w2 := (by rw [hu]; exact (by repeat (first | (with_reducible exact Kp.refl _) | (with_reducible assumption) | (with_reducible apply Kp.ext) | (with_reducible apply Kp.alloc) | (with_reducible apply Kp.drew) | (with_reducible apply Kp.drewN) | (with_reducible refine Kp.setCell ?_ (by first | (dsimp only; omega) | (simp; omega) | (simp; done) | (simp [size_ext_eq]; omega)) _)))); obtain ⟨g, cap, rfl, _, hg, hcap, _, hat⟩ := ho.form; have Hat := Lib.hid hat; have Hg := Lib.hid hg; have Hcap := Lib.hid hcap; clear ho hat hg hcap hu) | (go_at_call 14; (with_reducible refine (HD.out _ _ _ _ (by repeat (first | (with_reducible exact Kp.refl _) | (with_reducible assumption) | (with_reducible apply Kp.ext) | (with_reducible apply Kp.alloc) | (with_reducible apply Kp.drew) | (with_reducible apply Kp.drewN) | (with_reducible refine Kp.setCell ?_ (by first | (dsimp only; omega) | (simp; omega) | (simp; done) | (simp [size_ext_eq]; omega)) _))) rfl Hcap.out (by first | exact Hg.out | exact Nat.lt_of_lt_of_le Hg.out (Kp.size (by repeat (first | (with_reducible exact Kp.refl _) | (with_reducible assumption) | (with_reducible apply Kp.ext) | (with_reducible apply Kp.alloc) | (with_reducible apply Kp.drew) | (with_reducible apply Kp.drewN) | (with_reducible refine Kp.setCell ?_ (by first | (dsimp only; omega) | (simp; omega) | (simp; done) | (simp [size_ext_eq]; omega)) _))))) (Hat.out.kp Hg.out (by repeat (first | (with_reducible exact Kp.refl _) | (with_reducible assumption) | (with_reducible apply Kp.ext) | (with_reducible apply Kp.alloc) | (with_reducible apply Kp.drew) | (with_reducible apply Kp.drewN) | (with_reducible refine Kp.setCell ?_ (by first | (dsimp only; omega) | (simp; omega) | (simp; done) | (simp [size_ext_eq]; omega)) _))))).mono ?_); rintro e w3 ⟨h1, _⟩; obtain ⟨lv3, pv3, u3, rfl, hu, hsh⟩ := h1 rfl; have k3 : Kp w w3 := (by rw [hu]; exact (by repeat (first | (with_reducible exact Kp.refl _) | (with_reducible assumption) | (with_reducible apply Kp.ext) | (with_reducible apply Kp.alloc) | (with_reducible apply Kp.drew) | (with_reducible apply Kp.drewN) | (with_reducible refine Kp.setCell ?_ (by first | (dsimp only; omega) | (simp; omega) | (simp; done) | (simp [size_ext_eq]; omega)) _)))); obtain ⟨⟨q1, m1, d1, rfl⟩, q2, m2, d2, rfl⟩ := hsh.form; have Hsh := Lib.hid hsh; clear h1 hsh hu) | (go_at_call 14; (with_reducible refine (HB.out _ _ _ (by repeat (first | (with_reducible exact Kp.refl _) | (with_reducible assumption) | (with_reducible apply Kp.ext) | (with_reducible apply Kp.alloc) | (with_reducible apply Kp.drew) | (with_reducible apply Kp.drewN) | (with_reducible refine Kp.setCell ?_ (by first | (dsimp only; omega) | (simp; omega) | (simp; done) | (simp [size_ext_eq]; omega)) _)))).mono ?_); rintro e w4 ⟨_, h2⟩; obtain ⟨rfl, u4, rfl⟩ := h2 rfl; clear h2))
  go_region_with (first | (go_at_call 13; (with_reducible refine (plain_c _).mono ?_); rintro e w1 ⟨lv5, pv5, u5, rfl, rfl, hin⟩; have Hin5 := Lib.hid hin; clear hin) | (go_at_call 10; (first | (with_reducible refine (Ret.at_ext (HS.out _ _ _ _ _ (RetDec.shIn Hsh.out plainSh_bits hok hsm (by repeat (first | (with_reducible exact Kp.refl _) | (with_reducible assumption) | (with_reducible apply Kp.ext) | (with_reducible apply Kp.alloc) | (with_reducible apply Kp.drew) | (with_reducible apply Kp.drewN) | (with_reducible refine Kp.setCell ?_ (by first | (dsimp only; omega) | (simp; omega) | (simp; done) | (simp [size_ext_eq]; omega)) _))) (Nat.le_refl _)) (Hin5.out.kp (by repeat (first | (with_reducible exact Kp.refl _) | (with_reducible assumption) | (with_reducible apply Kp.ext) | (with_reducible apply Kp.alloc) | (with_reducible apply Kp.drew) | (with_reducible apply Kp.drewN) | (with_reducible refine Kp.setCell ?_ (by first | (dsimp only; omega) | (simp; omega) | (simp; done) | (simp [size_ext_eq]; omega)) _)))))).mono ?_) | (with_reducible refine (HS.out _ _ _ _ _ (RetDec.shIn Hsh.out plainSh_bits hok hsm (by repeat (first | (with_reducible exact Kp.refl _) | (with_reducible assumption) | (with_reducible apply Kp.ext) | (with_reducible apply Kp.alloc) | (with_reducible apply Kp.drew) | (with_reducible apply Kp.drewN) | (with_reducible refine Kp.setCell ?_ (by first | (dsimp only; omega) | (simp; omega) | (simp; done) | (simp [size_ext_eq]; omega)) _))) (Nat.le_refl _)) (Hin5.out.kp (by repeat (first | (with_reducible exact Kp.refl _) | (with_reducible assumption) | (with_reducible apply Kp.ext) | (with_reducible apply Kp.alloc) | (with_reducible apply Kp.drew) | (with_reducible apply Kp.drewN) | (with_reducible refine Kp.setCell ?_ (by first | (dsimp only; omega) | (simp; omega) | (simp; done) | (simp [size_ext_eq]; omega)) _))))).mono ?_)); rintro e w' ⟨rfl, u, rfl⟩))
  all_goals go_wp2_with fail
  all_goals (go_ret; exact Ret.mk rfl (by repeat (first | (with_reducible exact Kp.refl _) | (with_reducible assumption) | (with_reducible apply Kp.ext) | (with_reducible apply Kp.alloc) | (with_reducible apply Kp.drew) | (with_reducible apply Kp.drewN) | (with_reducible refine Kp.setCell ?_ (by first | (dsimp only; omega) | (simp; omega) | (simp; done) | (simp [size_ext_eq]; omega)) _))))
end Go.Proofs.YtobdohhabgnjiaaGreatDoor
