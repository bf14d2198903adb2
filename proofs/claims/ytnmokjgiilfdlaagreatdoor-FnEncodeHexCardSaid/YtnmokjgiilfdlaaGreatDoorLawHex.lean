/-
  laws.FnEncodeHex, walked: it answers true.
-/
import Derived.Test.YtnmokjgiilfdlaaGreatDoorEncs
import Derived.Test.YtnmokjgiilfdlaaGreatDoorHex3
import Derived.Test.YtnmokjgiilfdlaaGreatDoorShape
set_option linter.all false
namespace Go.Proofs.YtnmokjgiilfdlaaGreatDoor
open PubFl Go.RowKit

attribute [local go_sem] cell_ext frozen_ext ext_setCell cell_store size_ext_eq lt_p0 lt_p1 lt_p2 lt_p3 lt_p4 lt_p5 lt_p6 lt_p7 lt_p8 lt_p9 lt_p10 lt_p11 lt_p12 lt_p13 lt_p14 lt_p15 lt_p16 lt_p17 lt_p18 lt_p19 lt_p20 lt_p21 lt_p22 lt_p23 lt_p24 lt_p25 lt_p26 lt_p27 lt_p28 lt_p29 lt_p30 lt_p31 lt_p32 lt_q1 lt_q2 lt_q3 lt_q4 lt_q5 lt_q6 lt_q7 lt_q8 lt_q9 lt_q10 lt_q11 lt_q12 lt_q13 lt_q14 lt_q15 lt_q16 lt_q17 lt_q18 lt_q19 lt_q20 lt_q21 lt_q22 lt_q23 lt_q24 lt_q25 lt_q26 lt_q27 lt_q28 lt_q29 lt_q30 lt_q31 lt_q32 run_fop run_store_float
attribute [local go_sem high] cmp_eql cmp_neq cmp_lss cmp_leq cmp_gtr cmp_geq

set_option maxRecDepth 20000 in
set_option maxHeartbeats 4000000 in
theorem lawHex_walk (s : Sh) (lv pv : Value) (big : Bool) (w : World) (hG : Gls w) (hs : ShIn 4 w lv pv s) :
    Calls Tryz.prog 11 #[.agg #[.int .i64 s.kind, lv, pv], .bool big] w (Ret w (.bool true)) := by
  have hF := fun w' (hk : Kp w w') => fits1_c 3 s lv pv w' (hs.kp hk)
  have hI := fun w' (hk : Kp w w') => isShape_c s lv pv w' (hs.kp hk)
  have hEn : isShB s = true → ∀ w', Kp w w' → Calls Tryz.prog 23 #[.agg #[.int .i64 s.kind, lv, pv], .bool big] w' (RetYes w' (strB (hexL (formSh 4 s 0 big false)))) := fun h w' hk => encodeHex_c big 3 (by decide) s lv pv w' (hs.kp hk) (isSh_facts h).1 (isSh_facts h).2
  have hFo : isShB s = true → ∀ w', Kp w w' → Calls Tryz.prog 18 #[.agg #[.int .i64 s.kind, lv, pv], .int .i64 0, .bool big, .bool false] w' (RetY w' (formSh 4 s 0 big false)) := fun h w' hk => form_c 4 (by decide) s 0 (by decide) big false lv pv w' (hs.kp hk) (isSh_facts h).1 (isSh_facts h).2
  have hlen : isShB s = true → (formSh 4 s 0 big false).length ≤ 1000000000000 := fun h => Nat.le_trans (formSh_len (d := 4) 0 big false (isSh_facts h).1 (isSh_facts h).2) (by decide)
  have hall : isShB s = true → AllB (formSh 4 s 0 big false) := fun h => form_allB 0 (by decide) big false (isSh_facts h).1 (isSh_facts h).2 hs.bits
  have hEs := fun w' (hk : Kp w w') => encodes_c w' (hG.kp hk)
  obtain ⟨⟨p1, n1, c1, rfl⟩, p2, n2, c2, rfl⟩ := hs.form
  obtain ⟨k, hk⟩ : ∃ k, s.kind = k := ⟨_, rfl⟩
  rw [hk] at hF hI hEn hFo
  rw [hk]
  have H1 := Lib.hid hF
  have H2 := Lib.hid hI
  have HS := Lib.hid hEs
  clear hF hI hs hk hG hEs
  cases f1 : fitsB s
  · rw [f1] at H1
    clear H2 hEn hFo hlen hall f1 HS
    go_enter Tryz.func11, Tryz.ntmps11
    go_wp2_with (go_at_call 14; (first | (with_reducible refine (Ret.at_ext (H1.out _ (by repeat (first | (with_reducible exact Kp.refl _) | (with_reducible assumption) | (with_reducible apply Kp.ext) | (with_reducible apply Kp.alloc) | (with_reducible apply Kp.drew) | (with_reducible apply Kp.drewN) | (with_reducible refine Kp.setCell ?_ (by first | (dsimp only; omega) | (simp; omega) | (simp; done) | (simp [size_ext_eq]; omega)) _))))).mono ?_) | (with_reducible refine (H1.out _ (by repeat (first | (with_reducible exact Kp.refl _) | (with_reducible assumption) | (with_reducible apply Kp.ext) | (with_reducible apply Kp.alloc) | (with_reducible apply Kp.drew) | (with_reducible apply Kp.drewN) | (with_reducible refine Kp.setCell ?_ (by first | (dsimp only; omega) | (simp; omega) | (simp; done) | (simp [size_ext_eq]; omega)) _)))).mono ?_)); rintro e w' ⟨rfl, u, rfl⟩)
    go_ret
    exact Ret.mk rfl (by repeat (first | (with_reducible exact Kp.refl _) | (with_reducible assumption) | (with_reducible apply Kp.ext) | (with_reducible apply Kp.alloc) | (with_reducible apply Kp.drew) | (with_reducible apply Kp.drewN) | (with_reducible refine Kp.setCell ?_ (by first | (dsimp only; omega) | (simp; omega) | (simp; done) | (simp [size_ext_eq]; omega)) _)))
  · rw [f1] at H1
    cases f2 : isShB s
    · rw [f2] at H2
      clear hEn hFo hlen hall f1 f2
      go_enter Tryz.func11, Tryz.ntmps11
      go_wp2_with (first | (go_at_call 14; (first | (with_reducible refine (Ret.at_ext (H1.out _ (by repeat (first | (with_reducible exact Kp.refl _) | (with_reducible assumption) | (with_reducible apply Kp.ext) | (with_reducible apply Kp.alloc) | (with_reducible apply Kp.drew) | (with_reducible apply Kp.drewN) | (with_reducible refine Kp.setCell ?_ (by first | (dsimp only; omega) | (simp; omega) | (simp; done) | (simp [size_ext_eq]; omega)) _))))).mono ?_) | (with_reducible refine (H1.out _ (by repeat (first | (with_reducible exact Kp.refl _) | (with_reducible assumption) | (with_reducible apply Kp.ext) | (with_reducible apply Kp.alloc) | (with_reducible apply Kp.drew) | (with_reducible apply Kp.drewN) | (with_reducible refine Kp.setCell ?_ (by first | (dsimp only; omega) | (simp; omega) | (simp; done) | (simp [size_ext_eq]; omega)) _)))).mono ?_)); rintro e w' ⟨rfl, u, rfl⟩) | (go_at_call 15; (first | (with_reducible refine (Ret.at_ext (H2.out _ (by repeat (first | (with_reducible exact Kp.refl _) | (with_reducible assumption) | (with_reducible apply Kp.ext) | (with_reducible apply Kp.alloc) | (with_reducible apply Kp.drew) | (with_reducible apply Kp.drewN) | (with_reducible refine Kp.setCell ?_ (by first | (dsimp only; omega) | (simp; omega) | (simp; done) | (simp [size_ext_eq]; omega)) _))))).mono ?_) | (with_reducible refine (H2.out _ (by repeat (first | (with_reducible exact Kp.refl _) | (with_reducible assumption) | (with_reducible apply Kp.ext) | (with_reducible apply Kp.alloc) | (with_reducible apply Kp.drew) | (with_reducible apply Kp.drewN) | (with_reducible refine Kp.setCell ?_ (by first | (dsimp only; omega) | (simp; omega) | (simp; done) | (simp [size_ext_eq]; omega)) _)))).mono ?_)); rintro e w' ⟨rfl, u, rfl⟩) | (go_at_call 16; (first | (with_reducible refine (Ret.at_ext (HS.out _ (by repeat (first | (with_reducible exact Kp.refl _) | (with_reducible assumption) | (with_reducible apply Kp.ext) | (with_reducible apply Kp.alloc) | (with_reducible apply Kp.drew) | (with_reducible apply Kp.drewN) | (with_reducible refine Kp.setCell ?_ (by first | (dsimp only; omega) | (simp; omega) | (simp; done) | (simp [size_ext_eq]; omega)) _))))).mono ?_) | (with_reducible refine (HS.out _ (by repeat (first | (with_reducible exact Kp.refl _) | (with_reducible assumption) | (with_reducible apply Kp.ext) | (with_reducible apply Kp.alloc) | (with_reducible apply Kp.drew) | (with_reducible apply Kp.drewN) | (with_reducible refine Kp.setCell ?_ (by first | (dsimp only; omega) | (simp; omega) | (simp; done) | (simp [size_ext_eq]; omega)) _)))).mono ?_)); rintro e w' ⟨rfl, u, rfl⟩))
      go_ret
      exact Ret.mk rfl (by repeat (first | (with_reducible exact Kp.refl _) | (with_reducible assumption) | (with_reducible apply Kp.ext) | (with_reducible apply Kp.alloc) | (with_reducible apply Kp.drew) | (with_reducible apply Kp.drewN) | (with_reducible refine Kp.setCell ?_ (by first | (dsimp only; omega) | (simp; omega) | (simp; done) | (simp [size_ext_eq]; omega)) _)))
    · rw [f2] at H2
      have HE := Lib.hid (hEn f2)
      have HF := Lib.hid (hFo f2)
      have hl := hlen f2
      have ha := hall f2
      generalize formSh 4 s 0 big false = bs at *
      have HX := Lib.hid (fun (g c : Nat) (w' : World) (hg : g < w'.heap.size) (hat : BytesAt w' g 0 bs) => hex_c g 0 bs.length c bs rfl hl ha w' hg hat)
      obtain ⟨L, hL⟩ : ∃ L, bs.length = L := ⟨_, rfl⟩
      rw [hL] at hl HX
      have HL := Lib.hid hL
      obtain ⟨ts, hts⟩ : ∃ ts : ByteArray, strB (hexL bs) = .string ts := ⟨_, rfl⟩
      rw [hts] at HE HX
      clear hEn hFo hlen hall ha hts f1 f2 hL
      go_enter Tryz.func11, Tryz.ntmps11
      go_wp2_with (first | (go_at_call 14; (first | (with_reducible refine (Ret.at_ext (H1.out _ (by repeat (first | (with_reducible exact Kp.refl _) | (with_reducible assumption) | (with_reducible apply Kp.ext) | (with_reducible apply Kp.alloc) | (with_reducible apply Kp.drew) | (with_reducible apply Kp.drewN) | (with_reducible refine Kp.setCell ?_ (by first | (dsimp only; omega) | (simp; omega) | (simp; done) | (simp [size_ext_eq]; omega)) _))))).mono ?_) | (with_reducible refine (H1.out _ (by repeat (first | (with_reducible exact Kp.refl _) | (with_reducible assumption) | (with_reducible apply Kp.ext) | (with_reducible apply Kp.alloc) | (with_reducible apply Kp.drew) | (with_reducible apply Kp.drewN) | (with_reducible refine Kp.setCell ?_ (by first | (dsimp only; omega) | (simp; omega) | (simp; done) | (simp [size_ext_eq]; omega)) _)))).mono ?_)); rintro e w' ⟨rfl, u, rfl⟩) | (go_at_call 15; (first | (with_reducible refine (Ret.at_ext (H2.out _ (by repeat (first | (with_reducible exact Kp.refl _) | (with_reducible assumption) | (with_reducible apply Kp.ext) | (with_reducible apply Kp.alloc) | (with_reducible apply Kp.drew) | (with_reducible apply Kp.drewN) | (with_reducible refine Kp.setCell ?_ (by first | (dsimp only; omega) | (simp; omega) | (simp; done) | (simp [size_ext_eq]; omega)) _))))).mono ?_) | (with_reducible refine (H2.out _ (by repeat (first | (with_reducible exact Kp.refl _) | (with_reducible assumption) | (with_reducible apply Kp.ext) | (with_reducible apply Kp.alloc) | (with_reducible apply Kp.drew) | (with_reducible apply Kp.drewN) | (with_reducible refine Kp.setCell ?_ (by first | (dsimp only; omega) | (simp; omega) | (simp; done) | (simp [size_ext_eq]; omega)) _)))).mono ?_)); rintro e w' ⟨rfl, u, rfl⟩) | (go_at_call 16; ((with_reducible refine (HS.out _ (by repeat (first | (with_reducible exact Kp.refl _) | (with_reducible assumption) | (with_reducible apply Kp.ext) | (with_reducible apply Kp.alloc) | (with_reducible apply Kp.drew) | (with_reducible apply Kp.drewN) | (with_reducible refine Kp.setCell ?_ (by first | (dsimp only; omega) | (simp; omega) | (simp; done) | (simp [size_ext_eq]; omega)) _)))).mono ?_); rintro e w' ⟨rfl, u, rfl⟩)) | (go_at_call 23; (with_reducible refine (HE.out _ (by repeat (first | (with_reducible exact Kp.refl _) | (with_reducible assumption) | (with_reducible apply Kp.ext) | (with_reducible apply Kp.alloc) | (with_reducible apply Kp.drew) | (with_reducible apply Kp.drewN) | (with_reducible refine Kp.setCell ?_ (by first | (dsimp only; omega) | (simp; omega) | (simp; done) | (simp [size_ext_eq]; omega)) _)))).mono ?_); rintro e w2 ⟨u2, rfl, rfl⟩) | (go_at_call 18; (with_reducible refine (HF.out _ (by repeat (first | (with_reducible exact Kp.refl _) | (with_reducible assumption) | (with_reducible apply Kp.ext) | (with_reducible apply Kp.alloc) | (with_reducible apply Kp.drew) | (with_reducible apply Kp.drewN) | (with_reducible refine Kp.setCell ?_ (by first | (dsimp only; omega) | (simp; omega) | (simp; done) | (simp [size_ext_eq]; omega)) _)))).mono ?_); rintro e w3 ⟨v3, u3, rfl, rfl, ho3⟩; obtain ⟨g3, cap3, hv3, _, hg3, hcap3, _, hat3⟩ := ho3.form; rw [HL.out] at hv3; subst hv3; have Hat3 := Lib.hid hat3; have Hg3 := Lib.hid hg3; clear ho3 hat3 hg3 hcap3) | (go_at_call 24; (first | (with_reducible refine (Ret.at_ext (HX.out _ _ _ Hg3.out Hat3.out)).mono ?_) | (with_reducible refine (HX.out _ _ _ Hg3.out Hat3.out).mono ?_)); rintro e w' ⟨rfl, u, rfl⟩))
      go_ret
      exact Ret.mk rfl (by repeat (first | (with_reducible exact Kp.refl _) | (with_reducible assumption) | (with_reducible apply Kp.ext) | (with_reducible apply Kp.alloc) | (with_reducible apply Kp.drew) | (with_reducible apply Kp.drewN) | (with_reducible refine Kp.setCell ?_ (by first | (dsimp only; omega) | (simp; omega) | (simp; done) | (simp [size_ext_eq]; omega)) _)))
end Go.Proofs.YtnmokjgiilfdlaaGreatDoor
