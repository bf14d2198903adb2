/-
  laws.FnStream, walked: it answers true.
-/
import Derived.Test.YtobdohhabgnjiaaGreatDoorMSt
import Derived.Test.YtobdohhabgnjiaaGreatDoorMStD
import Derived.Test.YtobdohhabgnjiaaGreatDoorEncs
import Derived.Test.YtobdohhabgnjiaaGreatDoorSameB
set_option linter.all false
namespace Go.Proofs.YtobdohhabgnjiaaGreatDoor
open PubFl Go.RowKit

attribute [local go_sem] cell_ext frozen_ext ext_setCell cell_store size_ext_eq lt_p0 lt_p1 lt_p2 lt_p3 lt_p4 lt_p5 lt_p6 lt_p7 lt_p8 lt_p9 lt_p10 lt_p11 lt_p12 lt_p13 lt_p14 lt_p15 lt_p16 lt_p17 lt_p18 lt_p19 lt_p20 lt_p21 lt_p22 lt_p23 lt_p24 lt_p25 lt_p26 lt_p27 lt_p28 lt_p29 lt_p30 lt_p31 lt_p32 lt_q1 lt_q2 lt_q3 lt_q4 lt_q5 lt_q6 lt_q7 lt_q8 lt_q9 lt_q10 lt_q11 lt_q12 lt_q13 lt_q14 lt_q15 lt_q16 lt_q17 lt_q18 lt_q19 lt_q20 lt_q21 lt_q22 lt_q23 lt_q24 lt_q25 lt_q26 lt_q27 lt_q28 lt_q29 lt_q30 lt_q31 lt_q32 run_fop run_store_float
attribute [local go_sem high] cmp_eql cmp_neq cmp_lss cmp_leq cmp_gtr cmp_geq

set_option maxRecDepth 20000 in
set_option maxHeartbeats 4000000 in
theorem lawStream_no (v : Value) (ss : List Sh) (big : Bool) (w : World) (hG : Gls w) (h : ShsIn 4 w v ss) (hno : 2147483647 < ss.length ∨ areB ss = false) :
    Calls Tryz.prog 3 #[v, .bool big] w (Ret w (.bool true)) := by
  have hA := fun w' (k : Kp w w') => areShapes_c ss v w' (h.kp k)
  have hEs := fun w' (k : Kp w w') => encodes_c w' (hG.kp k)
  obtain ⟨a, cap, rfl, _⟩ := h
  have HA := Lib.hid hA
  have HE := Lib.hid hEs
  clear hA hEs hG
  by_cases hb : 2147483647 < ss.length
  · have e1 : (2147483647 : Int) < (ss.length : Int) := by omega
    go_enter Tryz.func3, Tryz.ntmps3
    go_wp2_with fail
    go_ret
    exact Ret.mk rfl (by repeat (first | (with_reducible exact Kp.refl _) | (with_reducible assumption) | (with_reducible apply Kp.ext) | (with_reducible apply Kp.alloc) | (with_reducible apply Kp.drew) | (with_reducible apply Kp.drewN) | (with_reducible refine Kp.setCell ?_ (by first | (dsimp only; omega) | (simp; omega) | (simp; done) | (simp [size_ext_eq]; omega)) _)))
  · have hf : areB ss = false := hno.resolve_left hb
    rw [hf] at HA
    have e1 : ((2147483647 : Int) < (ss.length : Int)) = False := eq_false (by omega)
    clear hno hb hf
    go_enter Tryz.func3, Tryz.ntmps3
    go_wp2_with (first | (go_at_call 4; (first | (with_reducible refine (Ret.at_ext (HA.out _ (by repeat (first | (with_reducible exact Kp.refl _) | (with_reducible assumption) | (with_reducible apply Kp.ext) | (with_reducible apply Kp.alloc) | (with_reducible apply Kp.drew) | (with_reducible apply Kp.drewN) | (with_reducible refine Kp.setCell ?_ (by first | (dsimp only; omega) | (simp; omega) | (simp; done) | (simp [size_ext_eq]; omega)) _))))).mono ?_) | (with_reducible refine (HA.out _ (by repeat (first | (with_reducible exact Kp.refl _) | (with_reducible assumption) | (with_reducible apply Kp.ext) | (with_reducible apply Kp.alloc) | (with_reducible apply Kp.drew) | (with_reducible apply Kp.drewN) | (with_reducible refine Kp.setCell ?_ (by first | (dsimp only; omega) | (simp; omega) | (simp; done) | (simp [size_ext_eq]; omega)) _)))).mono ?_)); rintro e w' ⟨rfl, u, rfl⟩) | (go_at_call 5; (first | (with_reducible refine (Ret.at_ext (HE.out _ (by repeat (first | (with_reducible exact Kp.refl _) | (with_reducible assumption) | (with_reducible apply Kp.ext) | (with_reducible apply Kp.alloc) | (with_reducible apply Kp.drew) | (with_reducible apply Kp.drewN) | (with_reducible refine Kp.setCell ?_ (by first | (dsimp only; omega) | (simp; omega) | (simp; done) | (simp [size_ext_eq]; omega)) _))))).mono ?_) | (with_reducible refine (HE.out _ (by repeat (first | (with_reducible exact Kp.refl _) | (with_reducible assumption) | (with_reducible apply Kp.ext) | (with_reducible apply Kp.alloc) | (with_reducible apply Kp.drew) | (with_reducible apply Kp.drewN) | (with_reducible refine Kp.setCell ?_ (by first | (dsimp only; omega) | (simp; omega) | (simp; done) | (simp [size_ext_eq]; omega)) _)))).mono ?_)); rintro e w' ⟨rfl, u, rfl⟩))
    go_ret
    exact Ret.mk rfl (by repeat (first | (with_reducible exact Kp.refl _) | (with_reducible assumption) | (with_reducible apply Kp.ext) | (with_reducible apply Kp.alloc) | (with_reducible apply Kp.drew) | (with_reducible apply Kp.drewN) | (with_reducible refine Kp.setCell ?_ (by first | (dsimp only; omega) | (simp; omega) | (simp; done) | (simp [size_ext_eq]; omega)) _)))
theorem areB_facts {ss : List Sh} (h : areB ss = true) : ss.length ≤ 8 ∧ ∀ i (hi : i < ss.length), isShB (ss[i]'hi) = true := by
  unfold areB at h
  rw [Bool.and_eq_true, List.all_eq_true, decide_eq_true_eq] at h
  exact ⟨h.2, fun i hi => h.1 _ (List.getElem_mem hi)⟩
set_option maxRecDepth 20000 in
set_option maxHeartbeats 4000000 in
theorem lawStream_yes (v : Value) (ss : List Sh) (big : Bool) (w : World) (hG : Gls w) (h : ShsIn 4 w v ss) (hyes : areB ss = true) :
    Calls Tryz.prog 3 #[v, .bool big] w (Ret w (.bool true)) := by
  obtain ⟨n8, hsh⟩ := areB_facts hyes
  have hok : ∀ i (hi : i < ss.length), cntOk 4 (ss[i]'hi) = true ∧ Small 4 (ss[i]'hi) := fun i hi => ⟨(isSh_facts (hsh i hi)).1, (isSh_facts (hsh i hi)).2⟩
  have hA := fun w' (k : Kp w w') => areShapes_c ss v w' (h.kp k)
  have hEs := fun w' (k : Kp w w') => encodes_c w' (hG.kp k)
  have hEA := fun w' (k : Kp w w') => encodeAll_c big ss v w' (h.kp k) n8 hok
  rw [hyes] at hA
  obtain ⟨f, hf⟩ : ∃ f, f = fun i => formSh 4 (ss.getD i dsh) 0 big false := ⟨_, rfl⟩
  have hfk : ∀ k (hk : k < ss.length), f k = formSh 4 (ss[k]'hk) 0 big false := fun k hk => by rw [hf]; show formSh 4 (ss.getD k dsh) 0 big false = _; rw [getD_sh ss k hk]
  have hM : ∀ i, i < ss.length → (f i).length ≤ 13784200000 := fun i hi => by
    rw [hfk i hi]
    exact formSh_len2 (d := 3) 0 big false (hok i hi).1 (hok i hi).2
  have hlen : (accB [] f ss.length).length ≤ 1000000000000 := by
    have := accB_le hM ss.length (Nat.le_refl _)
    omega
  have hDA : ∀ (g6 cap6 : Nat) (w' : World), Gls w' → (∀ i (hi : i < ss.length), BitsSh 4 (ss[i]'hi)) → (accB [] f ss.length).length ≤ cap6 → g6 < w'.heap.size → BytesAt w' g6 0 (accB [] f ss.length) → Calls Tryz.prog 8 #[.slice (some ⟨g6, 0, none⟩) (accB [] f ss.length).length cap6, .int .i64 ((ss.length : Int) + 2)] w' (RetShs ss w') := fun g6 cap6 w' hG hb hcap hg hat => by
    have h := decodeAll_c big ss g6 0 cap6 (accB [] f ss.length).length (ss.length + 2) w' hG rfl n8 (fun i hi => ⟨(hok i hi).1, (hok i hi).2, hb i hi⟩) (by rw [hf]) hcap hlen hg (by rw [← hf]; exact hat)
    rw [show ((ss.length + 2 : Nat) : Int) = (ss.length : Int) + 2 by omega] at h
    exact h
  rw [← hf] at hEA
  clear hf
  obtain ⟨a, cap, rfl, _, hget⟩ := h.at
  have HA := Lib.hid hA
  have HE := Lib.hid hEs
  have HEA := Lib.hid hEA
  have HDA := Lib.hid hDA
  have HM := Lib.hid hM
  have Hfk := Lib.hid hfk
  have Hlen := Lib.hid hlen
  have Hget := Lib.hid hget
  have HG := Lib.hid hG
  have Hok3 : Hid (∀ i (hi : i < ss.length), cntOk 4 (ss[i]'hi) = true ∧ Small 4 (ss[i]'hi) ∧ BitsSh 4 (ss[i]'hi)) := Lib.hid fun i hi => by
    obtain ⟨b, off, n3, a3, c3, n4, a4, c4, _, hb, g0, g1', g2, g3⟩ := hget i hi
    exact ⟨(hok i hi).1, (hok i hi).2, g3.bits⟩
  have e1 : ((2147483647 : Int) < (ss.length : Int)) = False := eq_false (by omega)
  clear hA hEs hG hEA hDA hM hfk hlen hget h hyes
  go_enter Tryz.func3, Tryz.ntmps3
  go_wp2_with (first | (go_at_call 4; (first | (with_reducible refine (Ret.at_ext (HA.out _ (by repeat (first | (with_reducible exact Kp.refl _) | (with_reducible assumption) | (with_reducible apply Kp.ext) | (with_reducible apply Kp.alloc) | (with_reducible apply Kp.drew) | (with_reducible apply Kp.drewN) | (with_reducible refine Kp.setCell ?_ (by first | (dsimp only; omega) | (simp; omega) | (simp; done) | (simp [size_ext_eq]; omega)) _))))).mono ?_) | (with_reducible refine (HA.out _ (by repeat (first | (with_reducible exact Kp.refl _) | (with_reducible assumption) | (with_reducible apply Kp.ext) | (with_reducible apply Kp.alloc) | (with_reducible apply Kp.drew) | (with_reducible apply Kp.drewN) | (with_reducible refine Kp.setCell ?_ (by first | (dsimp only; omega) | (simp; omega) | (simp; done) | (simp [size_ext_eq]; omega)) _)))).mono ?_)); rintro e w' ⟨rfl, u, rfl⟩) | (go_at_call 6; (with_reducible refine (HEA.out _ (by repeat (first | (with_reducible exact Kp.refl _) | (with_reducible assumption) | (with_reducible apply Kp.ext) | (with_reducible apply Kp.alloc) | (with_reducible apply Kp.drew) | (with_reducible apply Kp.drewN) | (with_reducible refine Kp.setCell ?_ (by first | (dsimp only; omega) | (simp; omega) | (simp; done) | (simp [size_ext_eq]; omega)) _)))).mono ?_); rintro e w1 ⟨v1, u1, rfl, hu1, ho1⟩; have hW1 : Kp w w1 := (by rw [hu1]; exact (by repeat (first | (with_reducible exact Kp.refl _) | (with_reducible assumption) | (with_reducible apply Kp.ext) | (with_reducible apply Kp.alloc) | (with_reducible apply Kp.drew) | (with_reducible apply Kp.drewN) | (with_reducible refine Kp.setCell ?_ (by first | (dsimp only; omega) | (simp; omega) | (simp; done) | (simp [size_ext_eq]; omega)) _)))); clear hu1; obtain ⟨g1, cap1, hv1, _, hg1, hcap1, _, hat1⟩ := ho1.form; subst hv1; have Hat1 := Lib.hid hat1; have Hg1 := Lib.hid hg1; have Hcap1 := Lib.hid hcap1; clear ho1 hat1 hg1 hcap1))
  go_loopw [7, 29] (fun s7 s29 wr => ∃ (k : Nat), k ≤ ss.length ∧ s29 = .int .i64 k ∧ OwnB w1.heap.size wr s7 (accB [] f k) ∧ Kp w1 wr) (fun _ s29 _ => ss.length - (intOf s29).toNat)
  case atStart => exact ⟨0, by omega, rfl, OwnB.kp (show OwnB w1.heap.size (w1.alloc (.cells #[] 5)) (.slice (some ⟨w1.heap.size, 0, none⟩) 0 0) [] from OwnB.lit w1 [] (Nat.le_refl _) (by decide)) (by repeat (first | (with_reducible exact Kp.refl _) | (with_reducible assumption) | (with_reducible apply Kp.ext) | (with_reducible apply Kp.alloc) | (with_reducible apply Kp.drew) | (with_reducible apply Kp.drewN) | (with_reducible refine Kp.setCell ?_ (by first | (dsimp only; omega) | (simp; omega) | (simp; done) | (simp [size_ext_eq]; omega)) _))), (by repeat (first | (with_reducible exact Kp.refl _) | (with_reducible assumption) | (with_reducible apply Kp.ext) | (with_reducible apply Kp.alloc) | (with_reducible apply Kp.drew) | (with_reducible apply Kp.drewN) | (with_reducible refine Kp.setCell ?_ (by first | (dsimp only; omega) | (simp; omega) | (simp; done) | (simp [size_ext_eq]; omega)) _)))⟩
  case round =>
    obtain ⟨k, hk, rfl, hown, hkw⟩ := hrel
    have hkp : Kp w wr := hW1.trans hkw
    have Hown := Lib.hid hown
    by_cases hlt : k < ss.length
    · obtain ⟨b, off, n3, a3, c3, n4, a4, c4, rfl, hb, g0, g1', g2, g3⟩ := Hget.out k hlt
      have g0 := Kp.cell hkp g0 hb
      have g1' := Kp.cell hkp g1' hb
      have g2 := Kp.cell hkp g2 hb
      have hbx := Nat.lt_of_lt_of_le hb hkp.size
      have hok1 := hok k hlt
      have HF : Hid (∀ w' (k' : Kp wr w'), Calls Tryz.prog 7 #[.agg #[.int .i64 (ss[k]'hlt).kind, .slice a3 n3 c3, .slice a4 n4 c4], .int .i64 0, .bool big, .bool false] w' (RetY w' (formSh 4 (ss[k]'hlt) 0 big false))) := Lib.hid fun w' k' => form_c 4 (by decide) (ss[k]'hlt) 0 (by decide) big false _ _ w' ((g3.kp hkp).kp k') hok1.1 hok1.2
      clear g3 hok1 hown
      go_wp2_with (first | (go_at_call 7; (with_reducible refine (HF.out _ (by repeat (first | (with_reducible exact Kp.refl _) | (with_reducible assumption) | (with_reducible apply Kp.ext) | (with_reducible apply Kp.alloc) | (with_reducible apply Kp.drew) | (with_reducible apply Kp.drewN) | (with_reducible refine Kp.setCell ?_ (by first | (dsimp only; omega) | (simp; omega) | (simp; done) | (simp [size_ext_eq]; omega)) _)))).mono ?_); rintro e w2 ⟨v2, u2, rfl, hu2, ho2⟩; have hk2 : Kp wr w2 := (by rw [hu2]; exact (by repeat (first | (with_reducible exact Kp.refl _) | (with_reducible assumption) | (with_reducible apply Kp.ext) | (with_reducible apply Kp.alloc) | (with_reducible apply Kp.drew) | (with_reducible apply Kp.drewN) | (with_reducible refine Kp.setCell ?_ (by first | (dsimp only; omega) | (simp; omega) | (simp; done) | (simp [size_ext_eq]; omega)) _)))); obtain ⟨g5, cap5, hv5, _, hg5, hcap5, _, hat5⟩ := ho2.form; subst hv5; clear hu2 ho2) | (at_builtin; refine wpList_append_bytes rfl (.tmp 33) (.tmp 36) rfl w1.heap.size _ (accB [] f k) rfl (OwnB.kp Hown.out (show Kp wr w2 from hk2)) g5 0 cap5 _ (formSh 4 (ss[k]'hlt) 0 big false) rfl rfl ?d2 ?d3 ?d4 ?d5 ?_))
      case d2 => exact hat5
      case d3 =>
        have := accB_le HM.out k hk
        omega
      case d4 => exact Nat.le_trans (formSh_len2 (d := 3) 0 big false (hok k hlt).1 (hok k hlt).2) (by decide)
      case d5 => exact (hkw.trans hk2).size
      intro v3 w3 ho3 hb3 _
      have hk3 : Kp w1 w3 := Below.trans (hkw.trans hk2) hb3
      have Ho3 := Lib.hid ho3
      clear ho3
      go_wp2_with fail
      go_roundw
      case rel => exact ⟨k + 1, by omega, by go_num, by have h := Ho3.out; rw [← Hfk.out k hlt] at h; exact h, (by repeat (first | (with_reducible exact Kp.refl _) | (with_reducible assumption) | (with_reducible apply Kp.ext) | (with_reducible apply Kp.alloc) | (with_reducible apply Kp.drew) | (with_reducible apply Kp.drewN) | (with_reducible refine Kp.setCell ?_ (by first | (dsimp only; omega) | (simp; omega) | (simp; done) | (simp [size_ext_eq]; omega)) _)))⟩
      case measure => simp [intOf]; omega
    · obtain rfl : k = ss.length := by omega
      obtain ⟨g6, cap6, hv6, _, hg6, hcap6, _, hat6⟩ := hown.form
      subst hv6
      have HD := Lib.hid (fun w' (k' : Kp wr w') => HDA.out g6 cap6 w' (HG.out.kp (hkp.trans k')) (fun i hi => (Hok3.out i hi).2.2) hcap6 (Nat.lt_of_lt_of_le hg6 k'.size) (hat6.kp hg6 k'))
      have HB := Lib.hid (fun w' (k' : Kp wr w') => sameBytes2_c g1 0 cap1 g6 0 cap6 _ _ rfl Hlen.out w' (Nat.lt_of_lt_of_le Hg1.out (hkw.trans k').size) (Nat.lt_of_lt_of_le hg6 k'.size) (Hat1.out.kp Hg1.out (hkw.trans k')) (hat6.kp hg6 k'))
      clear hat6 hg6 hcap6 hown Hown
      clear Hat1 Hg1 Hcap1 HA HEA HM HDA Hlen Hfk
      generalize (accB [] f ss.length).length = L at *
      go_wp2_with (first | (go_at_call 8; (with_reducible refine (HD.out _ (by repeat (first | (with_reducible exact Kp.refl _) | (with_reducible assumption) | (with_reducible apply Kp.ext) | (with_reducible apply Kp.alloc) | (with_reducible apply Kp.drew) | (with_reducible apply Kp.drewN) | (with_reducible refine Kp.setCell ?_ (by first | (dsimp only; omega) | (simp; omega) | (simp; done) | (simp [size_ext_eq]; omega)) _)))).mono ?_); rintro e w4 ⟨v4, xs4, u4, rfl, hu4, hr4, g7, c7, rfl⟩; have hk4 : Kp wr w4 := (by rw [hu4]; exact (by repeat (first | (with_reducible exact Kp.refl _) | (with_reducible assumption) | (with_reducible apply Kp.ext) | (with_reducible apply Kp.alloc) | (with_reducible apply Kp.drew) | (with_reducible apply Kp.drewN) | (with_reducible refine Kp.setCell ?_ (by first | (dsimp only; omega) | (simp; omega) | (simp; done) | (simp [size_ext_eq]; omega)) _)))); have Hr4 := Lib.hid hr4; clear hr4 hu4) | (go_at_call 9; (first | (with_reducible refine (Ret.at_ext (HB.out _ (by repeat (first | (with_reducible exact Kp.refl _) | (with_reducible assumption) | (with_reducible apply Kp.ext) | (with_reducible apply Kp.alloc) | (with_reducible apply Kp.drew) | (with_reducible apply Kp.drewN) | (with_reducible refine Kp.setCell ?_ (by first | (dsimp only; omega) | (simp; omega) | (simp; done) | (simp [size_ext_eq]; omega)) _))))).mono ?_) | (with_reducible refine (HB.out _ (by repeat (first | (with_reducible exact Kp.refl _) | (with_reducible assumption) | (with_reducible apply Kp.ext) | (with_reducible apply Kp.alloc) | (with_reducible apply Kp.drew) | (with_reducible apply Kp.drewN) | (with_reducible refine Kp.setCell ?_ (by first | (dsimp only; omega) | (simp; omega) | (simp; done) | (simp [size_ext_eq]; omega)) _)))).mono ?_)); rintro e w' ⟨rfl, u, rfl⟩))
      go_loopw [61] (fun s61 wx => ∃ (k : Nat), k ≤ ss.length ∧ s61 = .int .i64 k ∧ Kp w4 wx) (fun s61 _ => ss.length - (intOf s61).toNat)
      case atStart => exact ⟨0, by omega, rfl, (by repeat (first | (with_reducible exact Kp.refl _) | (with_reducible assumption) | (with_reducible apply Kp.ext) | (with_reducible apply Kp.alloc) | (with_reducible apply Kp.drew) | (with_reducible apply Kp.drewN) | (with_reducible refine Kp.setCell ?_ (by first | (dsimp only; omega) | (simp; omega) | (simp; done) | (simp [size_ext_eq]; omega)) _)))⟩
      case round =>
        obtain ⟨k, hk, rfl, hkx⟩ := hrel
        have hkz : Kp w wr := (hkp.trans hk4).trans hkx
        by_cases hlt : k < ss.length
        · obtain ⟨b, off, n3, a3, c3, n4, a4, c4, rfl, hb, g0, g1', g2, g3⟩ := Hget.out k hlt
          have g0 := Kp.cell hkz g0 hb
          have g1' := Kp.cell hkz g1' hb
          have g2 := Kp.cell hkz g2 hb
          have hbx := Nat.lt_of_lt_of_le hb hkz.size
          obtain ⟨o1, o2, o3⟩ := Hok3.out k hlt
          have hown4 := Hr4.out.own
          have hg7 := (own_lt hown4 (g := g7) rfl).2
          obtain ⟨lv5, pv5, lo5, hi5, y0, y1, y2, he, q1, q2, q3⟩ := Hr4.out.el k hlt
          rw [getD_sh ss k hlt] at y0 he
          have hin := RetDec.shIn he o3 o1 o2 hkx q2
          obtain ⟨⟨a5, n5, c5, rfl⟩, a6, n6, c6, rfl⟩ := hin.form
          have h0 := Kp.cell hkx ((hown4.cellAt (k * 3) (by omega)).trans y0) hg7
          have h1 := Kp.cell hkx ((hown4.cellAt (k * 3 + 1) (by omega)).trans y1) hg7
          have h2 := Kp.cell hkx ((hown4.cellAt (k * 3 + 2) (by omega)).trans y2) hg7
          have hg7x := Nat.lt_of_lt_of_le hg7 hkx.size
          have HS := Lib.hid (fun w' (k' : Kp wr w') => sameShape_c 4 (ss[k]'hlt) _ _ _ _ w' (hin.kp k') ((g3.kp hkz).kp k') o1 o2)
          generalize ss[k]'hlt = q at *
          clear o1 o2 o3 y0 y1 y2 he q1 q2 q3 hin hown4 g3
          have hlt1 : (k : Int) < (ss.length : Int) := by omega
          go_wp2_with fail
          first | (with_reducible refine wp_region_ext_lit2 ?_ ?_ ?_) | refine wp_region_ext_lit ?_ ?_ ?_
          kernel_rfl
          kernel_rfl
          repeat (go_big_quiet_step (first | (go_at_call 10; with_reducible exact Ret.quiet (HS.out _ (by repeat (first | (with_reducible exact Kp.refl _) | (with_reducible assumption) | (with_reducible apply Kp.ext) | (with_reducible apply Kp.alloc) | (with_reducible apply Kp.drew) | (with_reducible apply Kp.drewN) | (with_reducible refine Kp.setCell ?_ (by first | (dsimp only; omega) | (simp; omega) | (simp; done) | (simp [size_ext_eq]; omega)) _)))))))
          refine wpQuiet_nil ?_
          rintro _ ⟨u, rfl⟩
          go_wp2_with fail
          go_roundw
          case rel => exact ⟨k + 1, by omega, by go_num, (by repeat (first | (with_reducible exact Kp.refl _) | (with_reducible assumption) | (with_reducible apply Kp.ext) | (with_reducible apply Kp.alloc) | (with_reducible apply Kp.drew) | (with_reducible apply Kp.drewN) | (with_reducible refine Kp.setCell ?_ (by first | (dsimp only; omega) | (simp; omega) | (simp; done) | (simp [size_ext_eq]; omega)) _)))⟩
          case measure => simp [intOf]; omega
        · obtain rfl : k = ss.length := by omega
          go_wp2_with (go_at_call 5; (first | (with_reducible refine (Ret.at_ext (HE.out _ (by repeat (first | (with_reducible exact Kp.refl _) | (with_reducible assumption) | (with_reducible apply Kp.ext) | (with_reducible apply Kp.alloc) | (with_reducible apply Kp.drew) | (with_reducible apply Kp.drewN) | (with_reducible refine Kp.setCell ?_ (by first | (dsimp only; omega) | (simp; omega) | (simp; done) | (simp [size_ext_eq]; omega)) _))))).mono ?_) | (with_reducible refine (HE.out _ (by repeat (first | (with_reducible exact Kp.refl _) | (with_reducible assumption) | (with_reducible apply Kp.ext) | (with_reducible apply Kp.alloc) | (with_reducible apply Kp.drew) | (with_reducible apply Kp.drewN) | (with_reducible refine Kp.setCell ?_ (by first | (dsimp only; omega) | (simp; omega) | (simp; done) | (simp [size_ext_eq]; omega)) _)))).mono ?_)); rintro e w' ⟨rfl, u, rfl⟩)
          go_ret
          exact Ret.mk rfl (by repeat (first | (with_reducible exact Kp.refl _) | (with_reducible assumption) | (with_reducible apply Kp.ext) | (with_reducible apply Kp.alloc) | (with_reducible apply Kp.drew) | (with_reducible apply Kp.drewN) | (with_reducible refine Kp.setCell ?_ (by first | (dsimp only; omega) | (simp; omega) | (simp; done) | (simp [size_ext_eq]; omega)) _)))
theorem lawStream_walk (v : Value) (ss : List Sh) (big : Bool) (w : World) (hG : Gls w) (h : ShsIn 4 w v ss) :
    Calls Tryz.prog 3 #[v, .bool big] w (Ret w (.bool true)) := by
  cases e : areB ss
  · exact lawStream_no v ss big w hG h (.inr e)
  · exact lawStream_yes v ss big w hG h e
end Go.Proofs.YtobdohhabgnjiaaGreatDoor
