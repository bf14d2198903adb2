/-
  readPolygon, readMultiLineString: read off a reader.
  readMultiPolygon: read off a reader.
  Decoder.Decode by kinds, given what reads each kind.
  readCollection, given how its parts are decoded.
  Decoder.Decode of the form of any shape, whole or cut off.
  Unmarshal of a collection's form, whole or cut off.
-/
import Derived.Test.YtobdohhabgnjiaaGreatDoorMRdA
set_option linter.all false
namespace Go.Proofs.YtobdohhabgnjiaaGreatDoor
open PubFl Go.RowKit

attribute [local go_sem] cell_ext frozen_ext ext_setCell cell_store size_ext_eq lt_p0 lt_p1 lt_p2 lt_p3 lt_p4 lt_p5 lt_p6 lt_p7 lt_p8 lt_p9 lt_p10 lt_p11 lt_p12 lt_p13 lt_p14 lt_p15 lt_p16 lt_p17 lt_p18 lt_p19 lt_p20 lt_p21 lt_p22 lt_p23 lt_p24 lt_p25 lt_p26 lt_p27 lt_p28 lt_p29 lt_p30 lt_p31 lt_p32 lt_q1 lt_q2 lt_q3 lt_q4 lt_q5 lt_q6 lt_q7 lt_q8 lt_q9 lt_q10 lt_q11 lt_q12 lt_q13 lt_q14 lt_q15 lt_q16 lt_q17 lt_q18 lt_q19 lt_q20 lt_q21 lt_q22 lt_q23 lt_q24 lt_q25 lt_q26 lt_q27 lt_q28 lt_q29 lt_q30 lt_q31 lt_q32 run_fop run_store_float
attribute [local go_sem high] cmp_eql cmp_neq cmp_lss cmp_leq cmp_gtr cmp_geq

/-- the loop of readPolygon -/
def LoopG (b : Bool) (w0 : World) (gR gb N : Nat) (ls : List (List (Nat × Nat))) (f : Nat → List Nat) (r : List Nat) (w : World) (s11 s12 : Value) (wr : World) : Prop :=
  ∃ (k : Nat) (rest : List Nat) (xs : List Value), k ≤ N ∧ s12 = .int .i64 (k : Int) ∧ RdW w0 wr gR gb rest ∧ Kx [gR, gb] w wr ∧ RowsP (ListE ls) 126 w.heap.size wr s11 k xs ∧ PreB b (sufB f k (N - k)) r rest

set_option maxRecDepth 20000 in
set_option maxHeartbeats 4000000 in
theorem readPoly_c (b : Bool) (w0 w : World) (gR gb c : Nat) (ls : List (List (Nat × Nat))) (hn : ls.length ≤ 40) (hns : ∀ l ∈ ls, l.length ≤ 300) (hbits : ∀ l ∈ ls, Bits l) (big : Bool) (f : Nat → List Nat) (hf : ∀ i (_ : i < ls.length), f i = num32 (ls.getD i []).length big ++ ptsForm (ls.getD i []) big) (r bs : List Nat) (hP : PreB b (num32 ls.length big ++ sufB f 0 ls.length) r bs) (h : RdW w0 w gR gb bs) (hc : 8 ≤ c) (hG : Gls w0) :
    Calls Tryz.prog 63 #[rdrV gR, .int .i64 (ordI big), .slice (some ⟨gb, 0, none⟩) 8 c] w (RetRd b w0 gR gb r w (fun w' v => RowB (ListE ls) w.heap.size w'.heap.size w' v ls.length) (.slice none 0 0)) := by
  obtain ⟨i0, hi, hz0, hz1, hz2⟩ := info_parts infoRgd
  have HU := Lib.hid (fun b' r' bs' w' (hP : PreB b' (num32 ls.length big) r' bs') (h : RdW w0 w' gR gb bs') => readU32_c b' w0 w' gR gb ls.length c big r' bs' hP h (by omega) (by omega) hG)
  have HQ := Lib.hid (fun b' (k : Nat) (hk : k < ls.length) r' bs' w' (hP : PreB b' (num32 (ls.getD k []).length big ++ ptsForm (ls.getD k []) big) r' bs') (h : RdW w0 w' gR gb bs') => readLS_c b' w0 w' gR gb c (ls.getD k []) (getD_le hns k) (hbits _ (mem_getD' hk)) big r' bs' hP h hc hG)
  have hmk : ∀ w, (Instr.makeSlice 93 (.int .i64 0) (.int .u32 (ls.length : Int))).run Tryz.prog w = .ok (.slice (some ⟨w.heap.size, 0, none⟩) 0 ls.length) (w.alloc (.cells (madeCells #[.slice none 0 0] (ls.length * 1)) 126)) := fun w => by
    have := run_make (P := Tryz.prog) w 93 126 i0 (.slice none 0 0) Tryz.underlying93 hi hz0 .i64 .u32 0 (ls.length : Int) (by omega) (by omega) (by rw [hz2]; omega) (by omega)
    rw [this, hz1]
    rfl
  have k6 : ((100 : Int) < (ls.length : Int)) = False := eq_false (by omega)
  have k7 : (4 : Int) ≤ (c : Int) := by omega
  have Hs := Lib.hid h.gR_lt
  have H0 := Lib.hid h
  have hst := hP.step
  have Hf := Lib.hid hf
  obtain ⟨N, hN⟩ : ∃ N, ls.length = N := ⟨_, rfl⟩
  rw [hN] at hn HU hmk k6 hst
  have HN := Lib.hid hN
  generalize hO : ordI big = o at *
  unfold rdrV at HU HQ ⊢
  clear hP h hN hf hbits hns hO
  rcases hst with ⟨r2, rfl, hP2⟩ | ⟨rfl, hcut, _⟩
  rotate_left 1
  · have HX := Lib.hid (HU.out false [] _ w hcut H0.out)
    go_enter Tryz.func63, Tryz.ntmps63
    go_wp2_with (go_at_call 77; (with_reducible refine (HX.out).mono ?_); rintro e w1 h2; obtain ⟨a, hea, rfl, hk, hk0⟩ := h2.no; have HE := Lib.hid hea; clear h2 hea)
    refine bodyPost_ret (v := .tuple #[.slice none 0 0, .iface 191 (.pointer (some a))]) (by simp [results, Tryz.results63, go_sem]) rfl ?_
    exact .mk0 HE.out hk hk0
  have HX := Lib.hid (HU.out true _ _ w (PreB.of (num32 N big) r2) H0.out)
  have HP2 := Lib.hid hP2
  clear hP2
  go_enter Tryz.func63, Tryz.ntmps63
  go_wp2_with (go_at_call 77; (with_reducible refine (HX.out).mono ?_); rintro e w1 h2; obtain ⟨v, rfl, hrd1, hk1, rfl⟩ := h2.yes; have Hrd1 := Lib.hid hrd1; clear h2 hrd1)
  go_loopw [11, 12] (fun s11 s12 wr => LoopG b w0 gR gb N ls f r w s11 s12 wr) (fun _ s12 _ => N - (intOf s12).toNat)
  case atStart =>
    have hrow : RowsP (ListE ls) 126 w.heap.size (w1.alloc (.cells (madeCells #[.slice none 0 0] (N * 1)) 126)) (.slice (some ⟨w1.heap.size, 0, none⟩) 0 N) 0 [] := ⟨World.ownsRow_made (base := w.heap.size) (e := 126) (size := 1) w1 (madeCells #[.slice none 0 0] (N * 1)) N hk1.size (by unfold maxLen; omega) (by simp [size_madeCells]), ⟨_, rfl⟩, fun i hi => by omega⟩
    exact ⟨0, r2, [], Nat.zero_le _, rfl, Hrd1.out.kp (by repeat (first | (with_reducible exact Kp.refl _) | (with_reducible assumption) | (with_reducible apply Kp.ext) | (with_reducible apply Kp.alloc) | (with_reducible apply Kp.drew) | (with_reducible apply Kp.drewN) | (with_reducible refine Kp.setCell ?_ (by first | (dsimp only; omega) | (simp; omega) | (simp; done) | (simp [size_ext_eq]; omega)) _))), hk1.trans (Kx.of_kp (by repeat (first | (with_reducible exact Kp.refl _) | (with_reducible assumption) | (with_reducible apply Kp.ext) | (with_reducible apply Kp.alloc) | (with_reducible apply Kp.drew) | (with_reducible apply Kp.drewN) | (with_reducible refine Kp.setCell ?_ (by first | (dsimp only; omega) | (simp; omega) | (simp; done) | (simp [size_ext_eq]; omega)) _)))), by simpa using hrow, HP2.out⟩
  case round =>
    obtain ⟨k, rest, xs, hkn, rfl, hrd, hkx, hrow, hpre⟩ := hrel
    by_cases hlt : k < N
    · have hlt' : k < ls.length := by rw [HN.out]; exact hlt
      rw [show N - k = (N - (k + 1)) + 1 by omega] at hpre
      replace hpre : PreB b (f k ++ sufB f (k + 1) (N - (k + 1))) r rest := hpre
      rw [Hf.out k hlt'] at hpre
      have hk1 : (k : Int) < (N : Int) := by omega
      have hk3 : (k : Int) ≤ 300 := by omega
      have HQk := fun b' => HQ.out b' k hlt'
      obtain ⟨M, hM⟩ : ∃ M, ((ls.getD k []).length) = M := ⟨_, rfl⟩
      have HM := Lib.hid hM
      have Hrow := Lib.hid hrow
      have hown := hrow.own
      have Hown := Lib.hid hown
      have Hkx := Lib.hid hkx
      have hsz := hkx.size
      clear hrow hkx hM hown
      rcases hpre.step with ⟨r4, rfl, hpre4⟩ | ⟨rfl, hcut, _⟩
      rotate_left 1
      · have HX := Lib.hid (HQk false [] _ wr hcut hrd)
        clear hpre hcut HQk hrd
        go_wp2_with (go_at_call 61; (with_reducible refine (HX.out).mono ?_); rintro e w2 h2; obtain ⟨a, hea, rfl, hk2, hk0⟩ := h2.no; have HE := Lib.hid hea; clear h2 hea)
        refine bodyPost_ret (v := .tuple #[.slice none 0 0, .iface 191 (.pointer (some a))]) (by simp [results, Tryz.results63, go_sem]) rfl ?_
        exact .mk0 (HE.out.kp (by repeat (first | (with_reducible exact Kp.refl _) | (with_reducible assumption) | (with_reducible apply Kp.ext) | (with_reducible apply Kp.alloc) | (with_reducible apply Kp.drew) | (with_reducible apply Kp.drewN) | (with_reducible refine Kp.setCell ?_ (by first | (dsimp only; omega) | (simp; omega) | (simp; done) | (simp [size_ext_eq]; omega)) _)))) (Hkx.out.trans (hk2.trans (Kx.of_kp (by repeat (first | (with_reducible exact Kp.refl _) | (with_reducible assumption) | (with_reducible apply Kp.ext) | (with_reducible apply Kp.alloc) | (with_reducible apply Kp.drew) | (with_reducible apply Kp.drewN) | (with_reducible refine Kp.setCell ?_ (by first | (dsimp only; omega) | (simp; omega) | (simp; done) | (simp [size_ext_eq]; omega)) _)))))) (hk0.trans (by repeat (first | (with_reducible exact Kp.refl _) | (with_reducible assumption) | (with_reducible apply Kp.ext) | (with_reducible apply Kp.alloc) | (with_reducible apply Kp.drew) | (with_reducible apply Kp.drewN) | (with_reducible refine Kp.setCell ?_ (by first | (dsimp only; omega) | (simp; omega) | (simp; done) | (simp [size_ext_eq]; omega)) _))))
      have HX := Lib.hid (HQk true _ _ wr (PreB.of _ r4) hrd)
      have Hp4 := Lib.hid hpre4
      clear hpre hpre4 HQk hrd
      go_wp2_with (first | (go_at_call 61; (with_reducible refine (HX.out).mono ?_); rintro e w2 h2; obtain ⟨v, rfl, hrd2, hk2, hpb⟩ := h2.yes; obtain ⟨g2, cap2, hv2, hpb'⟩ := id hpb; rw [HM.out] at hv2; subst hv2; have Hpb : Hid (ListE ls k wr.heap.size w2.heap.size w2 _) := Lib.hid hpb; have Hrd3 := Lib.hid hrd2; have Hk3 := Lib.hid hk2; have hsz3 := hk2.size; clear h2 hrd2 hk2 hpb hpb') | (at_builtin; refine wpList_append_own2 _ rfl (.tmp 47) (.tmp 49) 93 rfl w.heap.size 126 i0 (.slice none 0 0) 1 24 Tryz.underlying93 hi hz0 hz1 hz2 rfl (by decide) _ k _ rfl (own_kp (own_kx Hown.out Hk3.out Hs.out) ((Kp.refl w2).alloc _)) _ 1 1 [.slice (some ⟨g2, 0, none⟩) M cap2] rfl rfl ?c1 ?c2 ?c3 ?c4 ?c5 ?_))
      case c1 => exact lit1 (by first | rfl | simp [size_ext_eq])
      case c2 => exact fun u hu => by simp at hu; subst hu; rfl
      case c3 => unfold maxLen; omega
      case c4 => omega
      case c5 => simp; omega
      intro v' w4 hown4 hgrow4 hblk
      have hbw : Below w.heap.size w2 w4 := Below.trans (Below.mono (show Kp w2 _ from (by repeat (first | (with_reducible exact Kp.refl _) | (with_reducible assumption) | (with_reducible apply Kp.ext) | (with_reducible apply Kp.alloc) | (with_reducible apply Kp.drew) | (with_reducible apply Kp.drewN) | (with_reducible refine Kp.setCell ?_ (by first | (dsimp only; omega) | (simp; omega) | (simp; done) | (simp [size_ext_eq]; omega)) _)))) (by omega)) (Below.grown (Below.refl _ _) hgrow4 (by simp; omega) (fun q hq => (Hown.out.lt q hq).1))
      have hsame : ∀ b, w.heap.size ≤ b → b < wr.heap.size → (w2.alloc (.cells #[.slice (some ⟨g2, 0, none⟩) M cap2] 126)).heap[b]? = wr.heap[b]? := fun b hb hl => ((show Kp w2 _ from (by repeat (first | (with_reducible exact Kp.refl _) | (with_reducible assumption) | (with_reducible apply Kp.ext) | (with_reducible apply Kp.alloc) | (with_reducible apply Kp.drew) | (with_reducible apply Kp.drewN) | (with_reducible refine Kp.setCell ?_ (by first | (dsimp only; omega) | (simp; omega) | (simp; done) | (simp [size_ext_eq]; omega)) _)))).block b (by omega)).trans (Kx.own Hk3.out (Hs.out _ (by simp)) (Hs.out _ (by simp)) b hb hl)
      have HR := Lib.hid (RowsP.stepK (keep_list ls) (n1 := wr.heap.size) Hrow.out hsame (by simp; omega) ((keep_list ls) k _ _ _ _ _ (Agree.of_kp ((Kp.refl w2).alloc _) (Nat.le_refl _)) (by simp) Hpb.out) (by omega) (by omega) (by simp) hown4 hgrow4 (by simpa using hblk))
      clear hown4 hgrow4 hblk hsame
      go_wp2_with fail
      go_roundw
      case rel => exact ⟨k + 1, r4, _, by omega, by go_num, Hrd3.out.below hbw Hs.out, (Hkx.out.trans Hk3.out).below hbw, HR.out, Hp4.out⟩
      case measure => simp [intOf]; omega
    · obtain rfl : k = N := by omega
      rw [Nat.sub_self] at hpre
      have hpre : PreB b [] r rest := hpre
      obtain ⟨rfl, rfl⟩ := hpre.nil
      have hr := hrow.done
      rw [← HN.out] at hr
      have Hr := Lib.hid hr
      have Hrd := Lib.hid hrd
      clear hr hrow hpre hrd
      go_wp2_with fail
      refine bodyPost_ret (v := .tuple #[u11, .nilIface]) (by simp [results, Tryz.results63, go_sem]) rfl ?_
      exact .mk1 (Hrd.out.kp (by repeat (first | (with_reducible exact Kp.refl _) | (with_reducible assumption) | (with_reducible apply Kp.ext) | (with_reducible apply Kp.alloc) | (with_reducible apply Kp.drew) | (with_reducible apply Kp.drewN) | (with_reducible refine Kp.setCell ?_ (by first | (dsimp only; omega) | (simp; omega) | (simp; done) | (simp [size_ext_eq]; omega)) _)))) (hkx.trans (Kx.of_kp (by repeat (first | (with_reducible exact Kp.refl _) | (with_reducible assumption) | (with_reducible apply Kp.ext) | (with_reducible apply Kp.alloc) | (with_reducible apply Kp.drew) | (with_reducible apply Kp.drewN) | (with_reducible refine Kp.setCell ?_ (by first | (dsimp only; omega) | (simp; omega) | (simp; done) | (simp [size_ext_eq]; omega)) _))))) Hr.out

/-- the loop of readMultiLineString -/
def LoopN (b : Bool) (w0 : World) (gR gb N : Nat) (ls : List (List (Nat × Nat))) (f : Nat → List Nat) (r : List Nat) (w : World) (s11 s12 : Value) (wr : World) : Prop :=
  ∃ (k : Nat) (rest : List Nat) (xs : List Value), k ≤ N ∧ s12 = .int .i64 (k : Int) ∧ RdW w0 wr gR gb rest ∧ Kx [gR, gb] w wr ∧ RowsP (ListE ls) 91 w.heap.size wr s11 k xs ∧ PreB b (sufB f k (N - k)) r rest

set_option maxRecDepth 20000 in
set_option maxHeartbeats 4000000 in
theorem readMLS_c (b : Bool) (w0 w : World) (gR gb c : Nat) (ls : List (List (Nat × Nat))) (hn : ls.length ≤ 40) (hns : ∀ l ∈ ls, l.length ≤ 300) (hbits : ∀ l ∈ ls, Bits l) (big pb : Bool) (f : Nat → List Nat) (hf : ∀ i (_ : i < ls.length), f i = headB 2 0 pb ++ (num32 (ls.getD i []).length pb ++ ptsForm (ls.getD i []) pb)) (r bs : List Nat) (hP : PreB b (num32 ls.length big ++ sufB f 0 ls.length) r bs) (h : RdW w0 w gR gb bs) (hc : 8 ≤ c) (hG : Gls w0) :
    Calls Tryz.prog 62 #[rdrV gR, .int .i64 (ordI big), .slice (some ⟨gb, 0, none⟩) 8 c] w (RetRd b w0 gR gb r w (fun w' v => RowB (ListE ls) w.heap.size w'.heap.size w' v ls.length) (.slice none 0 0)) := by
  obtain ⟨i0, hi, hz0, hz1, hz2⟩ := info_parts infoLSd
  have HU := Lib.hid (fun b' r' bs' w' (hP : PreB b' (num32 ls.length big) r' bs') (h : RdW w0 w' gR gb bs') => readU32_c b' w0 w' gR gb ls.length c big r' bs' hP h (by omega) (by omega) hG)
  have HH := Lib.hid (fun b' r' bs' w' (hP : PreB b' (headB 2 0 pb) r' bs') (h : RdW w0 w' gR gb bs') => readHd_c b' w0 w' gR gb 2 0 c (by decide) (by decide) pb r' bs' hP h hc hG)
  have HQ := Lib.hid (fun b' (k : Nat) (hk : k < ls.length) r' bs' w' (hP : PreB b' (num32 (ls.getD k []).length pb ++ ptsForm (ls.getD k []) pb) r' bs') (h : RdW w0 w' gR gb bs') => readLS_c b' w0 w' gR gb c (ls.getD k []) (getD_le hns k) (hbits _ (mem_getD' hk)) pb r' bs' hP h hc hG)
  have hmk : ∀ w, (Instr.makeSlice 97 (.int .i64 0) (.int .u32 (ls.length : Int))).run Tryz.prog w = .ok (.slice (some ⟨w.heap.size, 0, none⟩) 0 ls.length) (w.alloc (.cells (madeCells #[.slice none 0 0] (ls.length * 1)) 91)) := fun w => by
    have := run_make (P := Tryz.prog) w 97 91 i0 (.slice none 0 0) Tryz.underlying97 hi hz0 .i64 .u32 0 (ls.length : Int) (by omega) (by omega) (by rw [hz2]; omega) (by omega)
    rw [this, hz1]
    rfl
  have k6 : ((100 : Int) < (ls.length : Int)) = False := eq_false (by omega)
  have k7 : (4 : Int) ≤ (c : Int) := by omega
  have Hs := Lib.hid h.gR_lt
  have H0 := Lib.hid h
  have hst := hP.step
  have Hf := Lib.hid hf
  obtain ⟨N, hN⟩ : ∃ N, ls.length = N := ⟨_, rfl⟩
  rw [hN] at hn HU hmk k6 hst
  have HN := Lib.hid hN
  generalize hO : ordI big = o at *
  obtain ⟨po, hpo⟩ : ∃ po, ordI pb = po := ⟨_, rfl⟩
  have Hpo := Lib.hid hpo
  rw [hpo] at HQ
  unfold rdrV at HU HQ HH ⊢
  clear hP h hN hf hbits hns hO hpo
  rcases hst with ⟨r2, rfl, hP2⟩ | ⟨rfl, hcut, _⟩
  rotate_left 1
  · have HX := Lib.hid (HU.out false [] _ w hcut H0.out)
    go_enter Tryz.func62, Tryz.ntmps62
    go_wp2_with (go_at_call 77; (with_reducible refine (HX.out).mono ?_); rintro e w1 h2; obtain ⟨a, hea, rfl, hk, hk0⟩ := h2.no; have HE := Lib.hid hea; clear h2 hea)
    refine bodyPost_ret (v := .tuple #[.slice none 0 0, .iface 191 (.pointer (some a))]) (by simp [results, Tryz.results62, go_sem]) rfl ?_
    exact .mk0 HE.out hk hk0
  have HX := Lib.hid (HU.out true _ _ w (PreB.of (num32 N big) r2) H0.out)
  have HP2 := Lib.hid hP2
  clear hP2
  go_enter Tryz.func62, Tryz.ntmps62
  go_wp2_with (go_at_call 77; (with_reducible refine (HX.out).mono ?_); rintro e w1 h2; obtain ⟨v, rfl, hrd1, hk1, rfl⟩ := h2.yes; have Hrd1 := Lib.hid hrd1; clear h2 hrd1)
  go_loopw [11, 12] (fun s11 s12 wr => LoopN b w0 gR gb N ls f r w s11 s12 wr) (fun _ s12 _ => N - (intOf s12).toNat)
  case atStart =>
    have hrow : RowsP (ListE ls) 91 w.heap.size (w1.alloc (.cells (madeCells #[.slice none 0 0] (N * 1)) 91)) (.slice (some ⟨w1.heap.size, 0, none⟩) 0 N) 0 [] := ⟨World.ownsRow_made (base := w.heap.size) (e := 91) (size := 1) w1 (madeCells #[.slice none 0 0] (N * 1)) N hk1.size (by unfold maxLen; omega) (by simp [size_madeCells]), ⟨_, rfl⟩, fun i hi => by omega⟩
    exact ⟨0, r2, [], Nat.zero_le _, rfl, Hrd1.out.kp (by repeat (first | (with_reducible exact Kp.refl _) | (with_reducible assumption) | (with_reducible apply Kp.ext) | (with_reducible apply Kp.alloc) | (with_reducible apply Kp.drew) | (with_reducible apply Kp.drewN) | (with_reducible refine Kp.setCell ?_ (by first | (dsimp only; omega) | (simp; omega) | (simp; done) | (simp [size_ext_eq]; omega)) _))), hk1.trans (Kx.of_kp (by repeat (first | (with_reducible exact Kp.refl _) | (with_reducible assumption) | (with_reducible apply Kp.ext) | (with_reducible apply Kp.alloc) | (with_reducible apply Kp.drew) | (with_reducible apply Kp.drewN) | (with_reducible refine Kp.setCell ?_ (by first | (dsimp only; omega) | (simp; omega) | (simp; done) | (simp [size_ext_eq]; omega)) _)))), by simpa using hrow, HP2.out⟩
  case round =>
    obtain ⟨k, rest, xs, hkn, rfl, hrd, hkx, hrow, hpre⟩ := hrel
    by_cases hlt : k < N
    · have hlt' : k < ls.length := by rw [HN.out]; exact hlt
      rw [show N - k = (N - (k + 1)) + 1 by omega] at hpre
      replace hpre : PreB b (f k ++ sufB f (k + 1) (N - (k + 1))) r rest := hpre
      rw [Hf.out k hlt', List.append_assoc (headB 2 0 pb)] at hpre
      have hk1 : (k : Int) < (N : Int) := by omega
      have hk3 : (k : Int) ≤ 300 := by omega
      have HQk := fun b' => HQ.out b' k hlt'
      obtain ⟨M, hM⟩ : ∃ M, ((ls.getD k []).length) = M := ⟨_, rfl⟩
      have HM := Lib.hid hM
      have Hrow := Lib.hid hrow
      have hown := hrow.own
      have Hown := Lib.hid hown
      have Hkx := Lib.hid hkx
      have hsz := hkx.size
      clear hrow hkx hM hown
      rcases hpre.step with ⟨r3, rfl, hpre3⟩ | ⟨rfl, hcut, _⟩
      rotate_left 1
      · have HX := Lib.hid (HH.out false [] _ wr hcut hrd)
        clear hpre hcut HQk hrd
        go_wp2_with (go_at_call 58; (with_reducible refine (HX.out).mono ?_); rintro e w2 h2; obtain ⟨a, hea, rfl, hk2, hk0⟩ := h2.no; have HE := Lib.hid hea; clear h2 hea)
        refine bodyPost_ret (v := .tuple #[.slice none 0 0, .iface 191 (.pointer (some a))]) (by simp [results, Tryz.results62, go_sem]) rfl ?_
        exact .mk0 (HE.out.kp (by repeat (first | (with_reducible exact Kp.refl _) | (with_reducible assumption) | (with_reducible apply Kp.ext) | (with_reducible apply Kp.alloc) | (with_reducible apply Kp.drew) | (with_reducible apply Kp.drewN) | (with_reducible refine Kp.setCell ?_ (by first | (dsimp only; omega) | (simp; omega) | (simp; done) | (simp [size_ext_eq]; omega)) _)))) (Hkx.out.trans (hk2.trans (Kx.of_kp (by repeat (first | (with_reducible exact Kp.refl _) | (with_reducible assumption) | (with_reducible apply Kp.ext) | (with_reducible apply Kp.alloc) | (with_reducible apply Kp.drew) | (with_reducible apply Kp.drewN) | (with_reducible refine Kp.setCell ?_ (by first | (dsimp only; omega) | (simp; omega) | (simp; done) | (simp [size_ext_eq]; omega)) _)))))) (hk0.trans (by repeat (first | (with_reducible exact Kp.refl _) | (with_reducible assumption) | (with_reducible apply Kp.ext) | (with_reducible apply Kp.alloc) | (with_reducible apply Kp.drew) | (with_reducible apply Kp.drewN) | (with_reducible refine Kp.setCell ?_ (by first | (dsimp only; omega) | (simp; omega) | (simp; done) | (simp [size_ext_eq]; omega)) _))))
      have HX := Lib.hid (HH.out true _ _ wr (PreB.of _ r3) hrd)
      rcases hpre3.step with ⟨r4, rfl, hpre4⟩ | ⟨rfl, hcut, _⟩
      rotate_left 1
      · have HY := Lib.hid (fun w' (h : RdW w0 w' gR gb r3) => HQk false [] _ w' hcut h)
        clear hpre hpre3 hcut HQk hrd
        go_wp2_with (first | (go_at_call 58; (with_reducible refine (HX.out).mono ?_); rintro e w2 h2; obtain ⟨rfl, hrd2, hk2⟩ := h2.yes; rw [Hpo.out]; have Hrd2 := Lib.hid hrd2; clear h2 hrd2) | (go_at_call 61; (with_reducible refine (HY.out _ (Hrd2.out.kp (by repeat (first | (with_reducible exact Kp.refl _) | (with_reducible assumption) | (with_reducible apply Kp.ext) | (with_reducible apply Kp.alloc) | (with_reducible apply Kp.drew) | (with_reducible apply Kp.drewN) | (with_reducible refine Kp.setCell ?_ (by first | (dsimp only; omega) | (simp; omega) | (simp; done) | (simp [size_ext_eq]; omega)) _))))).mono ?_); rintro e w3 h3; obtain ⟨a, hea, rfl, hk3, hk0⟩ := h3.no; have HE := Lib.hid hea; clear h3 hea))
        refine bodyPost_ret (v := .tuple #[.slice none 0 0, .iface 191 (.pointer (some a))]) (by simp [results, Tryz.results62, go_sem]) rfl ?_
        exact .mk0 (HE.out.kp (by repeat (first | (with_reducible exact Kp.refl _) | (with_reducible assumption) | (with_reducible apply Kp.ext) | (with_reducible apply Kp.alloc) | (with_reducible apply Kp.drew) | (with_reducible apply Kp.drewN) | (with_reducible refine Kp.setCell ?_ (by first | (dsimp only; omega) | (simp; omega) | (simp; done) | (simp [size_ext_eq]; omega)) _)))) (Hkx.out.trans (hk2.trans ((Kx.of_kp (by repeat (first | (with_reducible exact Kp.refl _) | (with_reducible assumption) | (with_reducible apply Kp.ext) | (with_reducible apply Kp.alloc) | (with_reducible apply Kp.drew) | (with_reducible apply Kp.drewN) | (with_reducible refine Kp.setCell ?_ (by first | (dsimp only; omega) | (simp; omega) | (simp; done) | (simp [size_ext_eq]; omega)) _)))).trans (hk3.trans (Kx.of_kp (by repeat (first | (with_reducible exact Kp.refl _) | (with_reducible assumption) | (with_reducible apply Kp.ext) | (with_reducible apply Kp.alloc) | (with_reducible apply Kp.drew) | (with_reducible apply Kp.drewN) | (with_reducible refine Kp.setCell ?_ (by first | (dsimp only; omega) | (simp; omega) | (simp; done) | (simp [size_ext_eq]; omega)) _)))))))) (hk0.trans (by repeat (first | (with_reducible exact Kp.refl _) | (with_reducible assumption) | (with_reducible apply Kp.ext) | (with_reducible apply Kp.alloc) | (with_reducible apply Kp.drew) | (with_reducible apply Kp.drewN) | (with_reducible refine Kp.setCell ?_ (by first | (dsimp only; omega) | (simp; omega) | (simp; done) | (simp [size_ext_eq]; omega)) _))))
      have HY := Lib.hid (fun w' h => HQk true _ _ w' (PreB.of _ r4) h)
      have Hp4 := Lib.hid hpre4
      clear hpre hpre3 hpre4 HQk hrd
      go_wp2_with (first | (go_at_call 58; (with_reducible refine (HX.out).mono ?_); rintro e w2 h2; obtain ⟨rfl, hrd2, hk2⟩ := h2.yes; rw [Hpo.out]; have Hrd2 := Lib.hid hrd2; have Hk2 := Lib.hid hk2; have hsz2 := hk2.size; clear h2 hrd2 hk2) | (go_at_call 61; (with_reducible refine (HY.out w2 (Hrd2.out)).mono ?_); rintro e w3 h2; obtain ⟨v, rfl, hrd3, hk3, hpb⟩ := h2.yes; obtain ⟨g2, cap2, hv2, hpb'⟩ := id hpb; rw [HM.out] at hv2; subst hv2; have Hpb : Hid (ListE ls k w2.heap.size w3.heap.size w3 _) := Lib.hid hpb; have Hrd3 := Lib.hid hrd3; have Hk3 := Lib.hid (Hk2.out.trans hk3); have hsz3 := (Hk3.out).size; have hsz4 := hk3.size; clear h2 hrd3 hk3 hpb hpb') | (at_builtin; refine wpList_append_own2 _ rfl (.tmp 64) (.tmp 66) 97 rfl w.heap.size 91 i0 (.slice none 0 0) 1 24 Tryz.underlying97 hi hz0 hz1 hz2 rfl (by decide) _ k _ rfl (own_kp (own_kx Hown.out Hk3.out Hs.out) ((Kp.refl w3).alloc _)) _ 1 1 [.slice (some ⟨g2, 0, none⟩) M cap2] rfl rfl ?c1 ?c2 ?c3 ?c4 ?c5 ?_))
      case c1 => exact lit1 (by first | rfl | simp [size_ext_eq])
      case c2 => exact fun u hu => by simp at hu; subst hu; rfl
      case c3 => unfold maxLen; omega
      case c4 => omega
      case c5 => simp; omega
      intro v' w4 hown4 hgrow4 hblk
      have hbw : Below w.heap.size w3 w4 := Below.trans (Below.mono (show Kp w3 _ from (by repeat (first | (with_reducible exact Kp.refl _) | (with_reducible assumption) | (with_reducible apply Kp.ext) | (with_reducible apply Kp.alloc) | (with_reducible apply Kp.drew) | (with_reducible apply Kp.drewN) | (with_reducible refine Kp.setCell ?_ (by first | (dsimp only; omega) | (simp; omega) | (simp; done) | (simp [size_ext_eq]; omega)) _)))) (by omega)) (Below.grown (Below.refl _ _) hgrow4 (by simp; omega) (fun q hq => (Hown.out.lt q hq).1))
      have hsame : ∀ b, w.heap.size ≤ b → b < wr.heap.size → (w3.alloc (.cells #[.slice (some ⟨g2, 0, none⟩) M cap2] 91)).heap[b]? = wr.heap[b]? := fun b hb hl => ((show Kp w3 _ from (by repeat (first | (with_reducible exact Kp.refl _) | (with_reducible assumption) | (with_reducible apply Kp.ext) | (with_reducible apply Kp.alloc) | (with_reducible apply Kp.drew) | (with_reducible apply Kp.drewN) | (with_reducible refine Kp.setCell ?_ (by first | (dsimp only; omega) | (simp; omega) | (simp; done) | (simp [size_ext_eq]; omega)) _)))).block b (by omega)).trans (Kx.own Hk3.out (Hs.out _ (by simp)) (Hs.out _ (by simp)) b hb hl)
      have HR := Lib.hid (RowsP.stepK (keep_list ls) (n1 := w2.heap.size) Hrow.out hsame (by simp; omega) ((keep_list ls) k _ _ _ _ _ (Agree.of_kp ((Kp.refl w3).alloc _) (Nat.le_refl _)) (by simp) Hpb.out) (by omega) (by omega) (by simp) hown4 hgrow4 (by simpa using hblk))
      clear hown4 hgrow4 hblk hsame
      go_wp2_with fail
      go_roundw
      case rel => exact ⟨k + 1, r4, _, by omega, by go_num, Hrd3.out.below hbw Hs.out, (Hkx.out.trans Hk3.out).below hbw, HR.out, Hp4.out⟩
      case measure => simp [intOf]; omega
    · obtain rfl : k = N := by omega
      rw [Nat.sub_self] at hpre
      have hpre : PreB b [] r rest := hpre
      obtain ⟨rfl, rfl⟩ := hpre.nil
      have hr := hrow.done
      rw [← HN.out] at hr
      have Hr := Lib.hid hr
      have Hrd := Lib.hid hrd
      clear hr hrow hpre hrd
      go_wp2_with fail
      refine bodyPost_ret (v := .tuple #[u11, .nilIface]) (by simp [results, Tryz.results62, go_sem]) rfl ?_
      exact .mk1 (Hrd.out.kp (by repeat (first | (with_reducible exact Kp.refl _) | (with_reducible assumption) | (with_reducible apply Kp.ext) | (with_reducible apply Kp.alloc) | (with_reducible apply Kp.drew) | (with_reducible apply Kp.drewN) | (with_reducible refine Kp.setCell ?_ (by first | (dsimp only; omega) | (simp; omega) | (simp; done) | (simp [size_ext_eq]; omega)) _)))) (hkx.trans (Kx.of_kp (by repeat (first | (with_reducible exact Kp.refl _) | (with_reducible assumption) | (with_reducible apply Kp.ext) | (with_reducible apply Kp.alloc) | (with_reducible apply Kp.drew) | (with_reducible apply Kp.drewN) | (with_reducible refine Kp.setCell ?_ (by first | (dsimp only; omega) | (simp; omega) | (simp; done) | (simp [size_ext_eq]; omega)) _))))) Hr.out
end Go.Proofs.YtobdohhabgnjiaaGreatDoor

set_option linter.all false
namespace Go.Proofs.YtobdohhabgnjiaaGreatDoor
open PubFl Go.RowKit

attribute [local go_sem] cell_ext frozen_ext ext_setCell cell_store size_ext_eq lt_p0 lt_p1 lt_p2 lt_p3 lt_p4 lt_p5 lt_p6 lt_p7 lt_p8 lt_p9 lt_p10 lt_p11 lt_p12 lt_p13 lt_p14 lt_p15 lt_p16 lt_p17 lt_p18 lt_p19 lt_p20 lt_p21 lt_p22 lt_p23 lt_p24 lt_p25 lt_p26 lt_p27 lt_p28 lt_p29 lt_p30 lt_p31 lt_p32 lt_q1 lt_q2 lt_q3 lt_q4 lt_q5 lt_q6 lt_q7 lt_q8 lt_q9 lt_q10 lt_q11 lt_q12 lt_q13 lt_q14 lt_q15 lt_q16 lt_q17 lt_q18 lt_q19 lt_q20 lt_q21 lt_q22 lt_q23 lt_q24 lt_q25 lt_q26 lt_q27 lt_q28 lt_q29 lt_q30 lt_q31 lt_q32 run_fop run_store_float
attribute [local go_sem high] cmp_eql cmp_neq cmp_lss cmp_leq cmp_gtr cmp_geq

/-- the loop of readMultiPolygon -/
def LoopQ (b : Bool) (w0 : World) (gR gb N : Nat) (ls : List Sh) (f : Nat → List Nat) (r : List Nat) (w : World) (s11 s12 : Value) (wr : World) : Prop :=
  ∃ (k : Nat) (rest : List Nat) (xs : List Value), k ≤ N ∧ s12 = .int .i64 (k : Int) ∧ RdW w0 wr gR gb rest ∧ Kx [gR, gb] w wr ∧ RowsP (PolyE ls) 93 w.heap.size wr s11 k xs ∧ PreB b (sufB f k (N - k)) r rest

set_option maxRecDepth 20000 in
set_option maxHeartbeats 4000000 in
theorem readMPoly_c (b : Bool) (w0 w : World) (gR gb c : Nat) (ls : List Sh) (hn : ls.length ≤ 40) (hns : ∀ p ∈ ls, p.lists.length ≤ 40 ∧ (∀ l ∈ p.lists, l.length ≤ 300) ∧ ∀ l ∈ p.lists, Bits l) (big pb : Bool) (f : Nat → List Nat) (g : Nat → Nat → List Nat) (hg : ∀ i (_ : i < ls.length) j (_ : j < (ls.getD i dsh).lists.length), g i j = num32 ((ls.getD i dsh).lists.getD j []).length pb ++ ptsForm ((ls.getD i dsh).lists.getD j []) pb) (hf : ∀ i (_ : i < ls.length), f i = headB 3 0 pb ++ (num32 (ls.getD i dsh).lists.length pb ++ sufB (g i) 0 (ls.getD i dsh).lists.length)) (r bs : List Nat) (hP : PreB b (num32 ls.length big ++ sufB f 0 ls.length) r bs) (h : RdW w0 w gR gb bs) (hc : 8 ≤ c) (hG : Gls w0) :
    Calls Tryz.prog 64 #[rdrV gR, .int .i64 (ordI big), .slice (some ⟨gb, 0, none⟩) 8 c] w (RetRd b w0 gR gb r w (fun w' v => RowB (PolyE ls) w.heap.size w'.heap.size w' v ls.length) (.slice none 0 0)) := by
  obtain ⟨i0, hi, hz0, hz1, hz2⟩ := info_parts infoPgd
  have HU := Lib.hid (fun b' r' bs' w' (hP : PreB b' (num32 ls.length big) r' bs') (h : RdW w0 w' gR gb bs') => readU32_c b' w0 w' gR gb ls.length c big r' bs' hP h (by omega) (by omega) hG)
  have HH := Lib.hid (fun b' r' bs' w' (hP : PreB b' (headB 3 0 pb) r' bs') (h : RdW w0 w' gR gb bs') => readHd_c b' w0 w' gR gb 3 0 c (by decide) (by decide) pb r' bs' hP h hc hG)
  have HQ := Lib.hid (fun b' (k : Nat) (hk : k < ls.length) r' bs' w' (hP : PreB b' (num32 (ls.getD k dsh).lists.length pb ++ sufB (g k) 0 (ls.getD k dsh).lists.length) r' bs') (h : RdW w0 w' gR gb bs') => readPoly_c b' w0 w' gR gb c (ls.getD k dsh).lists (hns _ (mem_getD' hk)).1 (hns _ (mem_getD' hk)).2.1 (hns _ (mem_getD' hk)).2.2 pb (g k) (fun i hi => hg k hk i hi) r' bs' hP h hc hG)
  have hmk : ∀ w, (Instr.makeSlice 99 (.int .i64 0) (.int .u32 (ls.length : Int))).run Tryz.prog w = .ok (.slice (some ⟨w.heap.size, 0, none⟩) 0 ls.length) (w.alloc (.cells (madeCells #[.slice none 0 0] (ls.length * 1)) 93)) := fun w => by
    have := run_make (P := Tryz.prog) w 99 93 i0 (.slice none 0 0) Tryz.underlying99 hi hz0 .i64 .u32 0 (ls.length : Int) (by omega) (by omega) (by rw [hz2]; omega) (by omega)
    rw [this, hz1]
    rfl
  have k6 : ((100 : Int) < (ls.length : Int)) = False := eq_false (by omega)
  have k7 : (4 : Int) ≤ (c : Int) := by omega
  have Hs := Lib.hid h.gR_lt
  have H0 := Lib.hid h
  have hst := hP.step
  have Hf := Lib.hid hf
  obtain ⟨N, hN⟩ : ∃ N, ls.length = N := ⟨_, rfl⟩
  rw [hN] at hn HU hmk k6 hst
  have HN := Lib.hid hN
  generalize hO : ordI big = o at *
  obtain ⟨po, hpo⟩ : ∃ po, ordI pb = po := ⟨_, rfl⟩
  have Hpo := Lib.hid hpo
  rw [hpo] at HQ
  unfold rdrV at HU HQ HH ⊢
  clear hP h hN hf hns hO hpo hg
  rcases hst with ⟨r2, rfl, hP2⟩ | ⟨rfl, hcut, _⟩
  rotate_left 1
  · have HX := Lib.hid (HU.out false [] _ w hcut H0.out)
    go_enter Tryz.func64, Tryz.ntmps64
    go_wp2_with (go_at_call 77; (with_reducible refine (HX.out).mono ?_); rintro e w1 h2; obtain ⟨a, hea, rfl, hk, hk0⟩ := h2.no; have HE := Lib.hid hea; clear h2 hea)
    refine bodyPost_ret (v := .tuple #[.slice none 0 0, .iface 191 (.pointer (some a))]) (by simp [results, Tryz.results64, go_sem]) rfl ?_
    exact .mk0 HE.out hk hk0
  have HX := Lib.hid (HU.out true _ _ w (PreB.of (num32 N big) r2) H0.out)
  have HP2 := Lib.hid hP2
  clear hP2
  go_enter Tryz.func64, Tryz.ntmps64
  go_wp2_with (go_at_call 77; (with_reducible refine (HX.out).mono ?_); rintro e w1 h2; obtain ⟨v, rfl, hrd1, hk1, rfl⟩ := h2.yes; have Hrd1 := Lib.hid hrd1; clear h2 hrd1)
  go_loopw [11, 12] (fun s11 s12 wr => LoopQ b w0 gR gb N ls f r w s11 s12 wr) (fun _ s12 _ => N - (intOf s12).toNat)
  case atStart =>
    have hrow : RowsP (PolyE ls) 93 w.heap.size (w1.alloc (.cells (madeCells #[.slice none 0 0] (N * 1)) 93)) (.slice (some ⟨w1.heap.size, 0, none⟩) 0 N) 0 [] := ⟨World.ownsRow_made (base := w.heap.size) (e := 93) (size := 1) w1 (madeCells #[.slice none 0 0] (N * 1)) N hk1.size (by unfold maxLen; omega) (by simp [size_madeCells]), ⟨_, rfl⟩, fun i hi => by omega⟩
    exact ⟨0, r2, [], Nat.zero_le _, rfl, Hrd1.out.kp (by repeat (first | (with_reducible exact Kp.refl _) | (with_reducible assumption) | (with_reducible apply Kp.ext) | (with_reducible apply Kp.alloc) | (with_reducible apply Kp.drew) | (with_reducible apply Kp.drewN) | (with_reducible refine Kp.setCell ?_ (by first | (dsimp only; omega) | (simp; omega) | (simp; done) | (simp [size_ext_eq]; omega)) _))), hk1.trans (Kx.of_kp (by repeat (first | (with_reducible exact Kp.refl _) | (with_reducible assumption) | (with_reducible apply Kp.ext) | (with_reducible apply Kp.alloc) | (with_reducible apply Kp.drew) | (with_reducible apply Kp.drewN) | (with_reducible refine Kp.setCell ?_ (by first | (dsimp only; omega) | (simp; omega) | (simp; done) | (simp [size_ext_eq]; omega)) _)))), by simpa using hrow, HP2.out⟩
  case round =>
    obtain ⟨k, rest, xs, hkn, rfl, hrd, hkx, hrow, hpre⟩ := hrel
    by_cases hlt : k < N
    · have hlt' : k < ls.length := by rw [HN.out]; exact hlt
      rw [show N - k = (N - (k + 1)) + 1 by omega] at hpre
      replace hpre : PreB b (f k ++ sufB f (k + 1) (N - (k + 1))) r rest := hpre
      rw [Hf.out k hlt', List.append_assoc (headB 3 0 pb)] at hpre
      have hk1 : (k : Int) < (N : Int) := by omega
      have hk3 : (k : Int) ≤ 300 := by omega
      have HQk := fun b' => HQ.out b' k hlt'
      obtain ⟨M, hM⟩ : ∃ M, ((ls.getD k dsh).lists.length) = M := ⟨_, rfl⟩
      have HM := Lib.hid hM
      have Hrow := Lib.hid hrow
      have hown := hrow.own
      have Hown := Lib.hid hown
      have Hkx := Lib.hid hkx
      have hsz := hkx.size
      clear hrow hkx hM hown
      rcases hpre.step with ⟨r3, rfl, hpre3⟩ | ⟨rfl, hcut, _⟩
      rotate_left 1
      · have HX := Lib.hid (HH.out false [] _ wr hcut hrd)
        clear hpre hcut HQk hrd
        go_wp2_with (go_at_call 58; (with_reducible refine (HX.out).mono ?_); rintro e w2 h2; obtain ⟨a, hea, rfl, hk2, hk0⟩ := h2.no; have HE := Lib.hid hea; clear h2 hea)
        refine bodyPost_ret (v := .tuple #[.slice none 0 0, .iface 191 (.pointer (some a))]) (by simp [results, Tryz.results64, go_sem]) rfl ?_
        exact .mk0 (HE.out.kp (by repeat (first | (with_reducible exact Kp.refl _) | (with_reducible assumption) | (with_reducible apply Kp.ext) | (with_reducible apply Kp.alloc) | (with_reducible apply Kp.drew) | (with_reducible apply Kp.drewN) | (with_reducible refine Kp.setCell ?_ (by first | (dsimp only; omega) | (simp; omega) | (simp; done) | (simp [size_ext_eq]; omega)) _)))) (Hkx.out.trans (hk2.trans (Kx.of_kp (by repeat (first | (with_reducible exact Kp.refl _) | (with_reducible assumption) | (with_reducible apply Kp.ext) | (with_reducible apply Kp.alloc) | (with_reducible apply Kp.drew) | (with_reducible apply Kp.drewN) | (with_reducible refine Kp.setCell ?_ (by first | (dsimp only; omega) | (simp; omega) | (simp; done) | (simp [size_ext_eq]; omega)) _)))))) (hk0.trans (by repeat (first | (with_reducible exact Kp.refl _) | (with_reducible assumption) | (with_reducible apply Kp.ext) | (with_reducible apply Kp.alloc) | (with_reducible apply Kp.drew) | (with_reducible apply Kp.drewN) | (with_reducible refine Kp.setCell ?_ (by first | (dsimp only; omega) | (simp; omega) | (simp; done) | (simp [size_ext_eq]; omega)) _))))
      have HX := Lib.hid (HH.out true _ _ wr (PreB.of _ r3) hrd)
      rcases hpre3.step with ⟨r4, rfl, hpre4⟩ | ⟨rfl, hcut, _⟩
      rotate_left 1
      · have HY := Lib.hid (fun w' (h : RdW w0 w' gR gb r3) => HQk false [] _ w' hcut h)
        clear hpre hpre3 hcut HQk hrd
        go_wp2_with (first | (go_at_call 58; (with_reducible refine (HX.out).mono ?_); rintro e w2 h2; obtain ⟨rfl, hrd2, hk2⟩ := h2.yes; rw [Hpo.out]; have Hrd2 := Lib.hid hrd2; clear h2 hrd2) | (go_at_call 63; (with_reducible refine (HY.out _ (Hrd2.out.kp (by repeat (first | (with_reducible exact Kp.refl _) | (with_reducible assumption) | (with_reducible apply Kp.ext) | (with_reducible apply Kp.alloc) | (with_reducible apply Kp.drew) | (with_reducible apply Kp.drewN) | (with_reducible refine Kp.setCell ?_ (by first | (dsimp only; omega) | (simp; omega) | (simp; done) | (simp [size_ext_eq]; omega)) _))))).mono ?_); rintro e w3 h3; obtain ⟨a, hea, rfl, hk3, hk0⟩ := h3.no; have HE := Lib.hid hea; clear h3 hea))
        refine bodyPost_ret (v := .tuple #[.slice none 0 0, .iface 191 (.pointer (some a))]) (by simp [results, Tryz.results64, go_sem]) rfl ?_
        exact .mk0 (HE.out.kp (by repeat (first | (with_reducible exact Kp.refl _) | (with_reducible assumption) | (with_reducible apply Kp.ext) | (with_reducible apply Kp.alloc) | (with_reducible apply Kp.drew) | (with_reducible apply Kp.drewN) | (with_reducible refine Kp.setCell ?_ (by first | (dsimp only; omega) | (simp; omega) | (simp; done) | (simp [size_ext_eq]; omega)) _)))) (Hkx.out.trans (hk2.trans ((Kx.of_kp (by repeat (first | (with_reducible exact Kp.refl _) | (with_reducible assumption) | (with_reducible apply Kp.ext) | (with_reducible apply Kp.alloc) | (with_reducible apply Kp.drew) | (with_reducible apply Kp.drewN) | (with_reducible refine Kp.setCell ?_ (by first | (dsimp only; omega) | (simp; omega) | (simp; done) | (simp [size_ext_eq]; omega)) _)))).trans (hk3.trans (Kx.of_kp (by repeat (first | (with_reducible exact Kp.refl _) | (with_reducible assumption) | (with_reducible apply Kp.ext) | (with_reducible apply Kp.alloc) | (with_reducible apply Kp.drew) | (with_reducible apply Kp.drewN) | (with_reducible refine Kp.setCell ?_ (by first | (dsimp only; omega) | (simp; omega) | (simp; done) | (simp [size_ext_eq]; omega)) _)))))))) (hk0.trans (by repeat (first | (with_reducible exact Kp.refl _) | (with_reducible assumption) | (with_reducible apply Kp.ext) | (with_reducible apply Kp.alloc) | (with_reducible apply Kp.drew) | (with_reducible apply Kp.drewN) | (with_reducible refine Kp.setCell ?_ (by first | (dsimp only; omega) | (simp; omega) | (simp; done) | (simp [size_ext_eq]; omega)) _))))
      have HY := Lib.hid (fun w' h => HQk true _ _ w' (PreB.of _ r4) h)
      have Hp4 := Lib.hid hpre4
      clear hpre hpre3 hpre4 HQk hrd
      go_wp2_with (first | (go_at_call 58; (with_reducible refine (HX.out).mono ?_); rintro e w2 h2; obtain ⟨rfl, hrd2, hk2⟩ := h2.yes; rw [Hpo.out]; have Hrd2 := Lib.hid hrd2; have Hk2 := Lib.hid hk2; have hsz2 := hk2.size; clear h2 hrd2 hk2) | (go_at_call 63; (with_reducible refine (HY.out w2 (Hrd2.out)).mono ?_); rintro e w3 h2; obtain ⟨v, rfl, hrd3, hk3, hpb⟩ := h2.yes; obtain ⟨g2, cap2, hv2, hpb'⟩ := id hpb; rw [HM.out] at hv2; subst hv2; have Hpb : Hid (PolyE ls k w2.heap.size w3.heap.size w3 _) := Lib.hid hpb; have Hrd3 := Lib.hid hrd3; have Hk3 := Lib.hid (Hk2.out.trans hk3); have hsz3 := (Hk3.out).size; have hsz4 := hk3.size; clear h2 hrd3 hk3 hpb hpb') | (at_builtin; refine wpList_append_own2 _ rfl (.tmp 64) (.tmp 66) 99 rfl w.heap.size 93 i0 (.slice none 0 0) 1 24 Tryz.underlying99 hi hz0 hz1 hz2 rfl (by decide) _ k _ rfl (own_kp (own_kx Hown.out Hk3.out Hs.out) ((Kp.refl w3).alloc _)) _ 1 1 [.slice (some ⟨g2, 0, none⟩) M cap2] rfl rfl ?c1 ?c2 ?c3 ?c4 ?c5 ?_))
      case c1 => exact lit1 (by first | rfl | simp [size_ext_eq])
      case c2 => exact fun u hu => by simp at hu; subst hu; rfl
      case c3 => unfold maxLen; omega
      case c4 => omega
      case c5 => simp; omega
      intro v' w4 hown4 hgrow4 hblk
      have hbw : Below w.heap.size w3 w4 := Below.trans (Below.mono (show Kp w3 _ from (by repeat (first | (with_reducible exact Kp.refl _) | (with_reducible assumption) | (with_reducible apply Kp.ext) | (with_reducible apply Kp.alloc) | (with_reducible apply Kp.drew) | (with_reducible apply Kp.drewN) | (with_reducible refine Kp.setCell ?_ (by first | (dsimp only; omega) | (simp; omega) | (simp; done) | (simp [size_ext_eq]; omega)) _)))) (by omega)) (Below.grown (Below.refl _ _) hgrow4 (by simp; omega) (fun q hq => (Hown.out.lt q hq).1))
      have hsame : ∀ b, w.heap.size ≤ b → b < wr.heap.size → (w3.alloc (.cells #[.slice (some ⟨g2, 0, none⟩) M cap2] 93)).heap[b]? = wr.heap[b]? := fun b hb hl => ((show Kp w3 _ from (by repeat (first | (with_reducible exact Kp.refl _) | (with_reducible assumption) | (with_reducible apply Kp.ext) | (with_reducible apply Kp.alloc) | (with_reducible apply Kp.drew) | (with_reducible apply Kp.drewN) | (with_reducible refine Kp.setCell ?_ (by first | (dsimp only; omega) | (simp; omega) | (simp; done) | (simp [size_ext_eq]; omega)) _)))).block b (by omega)).trans (Kx.own Hk3.out (Hs.out _ (by simp)) (Hs.out _ (by simp)) b hb hl)
      have HR := Lib.hid (RowsP.stepK (keep_poly ls) (n1 := w2.heap.size) Hrow.out hsame (by simp; omega) ((keep_poly ls) k _ _ _ _ _ (Agree.of_kp ((Kp.refl w3).alloc _) (Nat.le_refl _)) (by simp) Hpb.out) (by omega) (by omega) (by simp) hown4 hgrow4 (by simpa using hblk))
      clear hown4 hgrow4 hblk hsame
      go_wp2_with fail
      go_roundw
      case rel => exact ⟨k + 1, r4, _, by omega, by go_num, Hrd3.out.below hbw Hs.out, (Hkx.out.trans Hk3.out).below hbw, HR.out, Hp4.out⟩
      case measure => simp [intOf]; omega
    · obtain rfl : k = N := by omega
      rw [Nat.sub_self] at hpre
      have hpre : PreB b [] r rest := hpre
      obtain ⟨rfl, rfl⟩ := hpre.nil
      have hr := hrow.done
      rw [← HN.out] at hr
      have Hr := Lib.hid hr
      have Hrd := Lib.hid hrd
      clear hr hrow hpre hrd
      go_wp2_with fail
      refine bodyPost_ret (v := .tuple #[u11, .nilIface]) (by simp [results, Tryz.results64, go_sem]) rfl ?_
      exact .mk1 (Hrd.out.kp (by repeat (first | (with_reducible exact Kp.refl _) | (with_reducible assumption) | (with_reducible apply Kp.ext) | (with_reducible apply Kp.alloc) | (with_reducible apply Kp.drew) | (with_reducible apply Kp.drewN) | (with_reducible refine Kp.setCell ?_ (by first | (dsimp only; omega) | (simp; omega) | (simp; done) | (simp [size_ext_eq]; omega)) _)))) (hkx.trans (Kx.of_kp (by repeat (first | (with_reducible exact Kp.refl _) | (with_reducible assumption) | (with_reducible apply Kp.ext) | (with_reducible apply Kp.alloc) | (with_reducible apply Kp.drew) | (with_reducible apply Kp.drewN) | (with_reducible refine Kp.setCell ?_ (by first | (dsimp only; omega) | (simp; omega) | (simp; done) | (simp [size_ext_eq]; omega)) _))))) Hr.out
end Go.Proofs.YtobdohhabgnjiaaGreatDoor

set_option linter.all false
namespace Go.Proofs.YtobdohhabgnjiaaGreatDoor
open PubFl Go.RowKit

attribute [local go_sem] cell_ext frozen_ext ext_setCell cell_store size_ext_eq lt_p0 lt_p1 lt_p2 lt_p3 lt_p4 lt_p5 lt_p6 lt_p7 lt_p8 lt_p9 lt_p10 lt_p11 lt_p12 lt_p13 lt_p14 lt_p15 lt_p16 lt_p17 lt_p18 lt_p19 lt_p20 lt_p21 lt_p22 lt_p23 lt_p24 lt_p25 lt_p26 lt_p27 lt_p28 lt_p29 lt_p30 lt_p31 lt_p32 lt_q1 lt_q2 lt_q3 lt_q4 lt_q5 lt_q6 lt_q7 lt_q8 lt_q9 lt_q10 lt_q11 lt_q12 lt_q13 lt_q14 lt_q15 lt_q16 lt_q17 lt_q18 lt_q19 lt_q20 lt_q21 lt_q22 lt_q23 lt_q24 lt_q25 lt_q26 lt_q27 lt_q28 lt_q29 lt_q30 lt_q31 lt_q32 run_fop run_store_float
attribute [local go_sem high] cmp_eql cmp_neq cmp_lss cmp_leq cmp_gtr cmp_geq

@[go_sem] theorem mk8 (w : World) : Sem.run Tryz.prog (Instr.makeSlice 25 (.int .i64 8) (.int .i64 8)) w = .ok (.slice (some ⟨w.heap.size, 0, none⟩) 8 8) (w.alloc (.cells #[.int .u8 0, .int .u8 0, .int .u8 0, .int .u8 0, .int .u8 0, .int .u8 0, .int .u8 0, .int .u8 0] 5)) := by kernel_rfl
/-- what Decode leaves -/
def RetDc (b : Bool) (w0 : World) (gR : Nat) (r : List Nat) (w : World) (G : World → Value → Prop) (si : Int) (e : Ending) (w' : World) : Prop :=
  (b = true → ∃ v, e = .returned (.tuple #[v, .int .i64 si, .nilIface]) ∧ Rdr w0 w' gR r ∧ Kx [gR] w w' ∧ G w' v) ∧
  (b = false → ∃ a, ErrA w' a ∧ e = .returned (.tuple #[.nilIface, .int .i64 0, .iface 191 (.pointer (some a))]) ∧ Kx [gR] w w' ∧ Kp w0 w')
theorem RetDc.yes {w0 : World} {gR : Nat} {r : List Nat} {w w' : World} {G : World → Value → Prop} {si : Int} {e : Ending} (h : RetDc true w0 gR r w G si e w') : ∃ v, e = .returned (.tuple #[v, .int .i64 si, .nilIface]) ∧ Rdr w0 w' gR r ∧ Kx [gR] w w' ∧ G w' v := h.1 rfl
theorem RetDc.no {w0 : World} {gR : Nat} {r : List Nat} {w w' : World} {G : World → Value → Prop} {si : Int} {e : Ending} (h : RetDc false w0 gR r w G si e w') : ∃ a, ErrA w' a ∧ e = .returned (.tuple #[.nilIface, .int .i64 0, .iface 191 (.pointer (some a))]) ∧ Kx [gR] w w' ∧ Kp w0 w' := h.2 rfl
theorem RetDc.mk1 {w0 : World} {gR : Nat} {r : List Nat} {w w' : World} {G : World → Value → Prop} {si : Int} {v : Value} (h1 : Rdr w0 w' gR r) (h2 : Kx [gR] w w') (h3 : G w' v) : RetDc true w0 gR r w G si (.returned (.tuple #[v, .int .i64 si, .nilIface])) w' := ⟨fun _ => ⟨v, rfl, h1, h2, h3⟩, nofun⟩
theorem RetDc.mk0 {w0 : World} {gR : Nat} {r : List Nat} {w w' : World} {G : World → Value → Prop} {si : Int} {a : Addr} (h1 : ErrA w' a) (h2 : Kx [gR] w w') (h3 : Kp w0 w') : RetDc false w0 gR r w G si (.returned (.tuple #[.nilIface, .int .i64 0, .iface 191 (.pointer (some a))])) w' := ⟨nofun, fun _ => ⟨a, h1, rfl, h2, h3⟩⟩
theorem RetDc.imp {b : Bool} {w0 : World} {gR : Nat} {r : List Nat} {w w' : World} {G G' : World → Value → Prop} {si : Int} {e : Ending} (h : RetDc b w0 gR r w G si e w') (k : ∀ v, G w' v → G' w' v) : RetDc b w0 gR r w G' si e w' :=
  ⟨fun hb => by obtain ⟨v, h1, h2, h3, h4⟩ := h.1 hb; exact ⟨v, h1, h2, h3, k v h4⟩, h.2⟩
theorem Kx.drop {gR gb : Nat} {w w1 w' : World} (h : Kx [gR, gb] w1 w') (k : Kp w w1) (hb : w.heap.size ≤ gb) : Kx [gR] w w' :=
  ⟨h.os.trans k.os, h.tape.trans k.tape, h.output.trans k.output, Nat.le_trans k.size h.size, fun b hl hn => (h.block b (Nat.lt_of_lt_of_le hl k.size) (by simp at hn ⊢; omega)).trans (k.block b hl)⟩
theorem heap_new (w : World) (o : Obj) : (w.alloc o).heap[w.heap.size]? = some o := by
  show (w.heap.push o)[w.heap.size]? = some o
  simp
theorem RdW.new {w0 w : World} {gR : Nat} {bs : List Nat} (h : Rdr w0 w gR bs) : RdW w0 (w.alloc (.cells #[.int .u8 0, .int .u8 0, .int .u8 0, .int .u8 0, .int .u8 0, .int .u8 0, .int .u8 0, .int .u8 0] 5)) gR w.heap.size bs :=
  ⟨h.kp' (by repeat (first | (with_reducible exact Kp.refl _) | (with_reducible assumption) | (with_reducible apply Kp.ext) | (with_reducible apply Kp.alloc) | (with_reducible apply Kp.drew) | (with_reducible apply Kp.drewN) | (with_reducible refine Kp.setCell ?_ (by first | (dsimp only; omega) | (simp; omega) | (simp; done) | (simp [size_ext_eq]; omega)) _))), ⟨h.kp.size, _, heap_new _ _, rfl⟩, by have := h.lt; omega⟩

set_option maxRecDepth 20000 in
set_option maxHeartbeats 1000000 in
theorem dec_head (w0 w : World) (gD gR kk si : Nat) (big : Bool) (bs r r' : List Nat) (h : Rdr w0 w gR bs) (hd : w.cell? ⟨gD, 0, none⟩ = some (rdrV gR)) (hgD : gD < w.heap.size) (G : World → Value → Prop) (s2 : Int)
    (hH : ∀ w', RdW w0 w' gR w.heap.size bs → Calls Tryz.prog 58 #[rdrV gR, .slice (some ⟨w.heap.size, 0, none⟩) 8 8] w' (RetHd false w0 gR w.heap.size kk si big r' w')) :
    Calls Tryz.prog 40 #[.pointer (some ⟨gD, 0, none⟩)] w (RetDc false w0 gR r w G s2) := by
  have HH := Lib.hid hH
  have H0 := Lib.hid (RdW.new h)
  unfold rdrV at hd HH
  clear hH h
  go_enter Tryz.func40, Tryz.ntmps40
  go_wp2_with (go_at_call 58; (with_reducible refine (HH.out _ (H0.out.kp (by repeat (first | (with_reducible exact Kp.refl _) | (with_reducible assumption) | (with_reducible apply Kp.ext) | (with_reducible apply Kp.alloc) | (with_reducible apply Kp.drew) | (with_reducible apply Kp.drewN) | (with_reducible refine Kp.setCell ?_ (by first | (dsimp only; omega) | (simp; omega) | (simp; done) | (simp [size_ext_eq]; omega)) _))))).mono ?_); rintro e w1 h2; obtain ⟨a, hea, rfl, hk, hk0⟩ := h2.no; have HE := Lib.hid hea; clear h2 hea)
  refine bodyPost_ret (v := .tuple #[.nilIface, .int .i64 0, .iface 191 (.pointer (some a))]) (by simp [results, Tryz.results40, go_sem]) rfl ?_
  exact .mk0 HE.out (hk.drop (by repeat (first | (with_reducible exact Kp.refl _) | (with_reducible assumption) | (with_reducible apply Kp.ext) | (with_reducible apply Kp.alloc) | (with_reducible apply Kp.drew) | (with_reducible apply Kp.drewN) | (with_reducible refine Kp.setCell ?_ (by first | (dsimp only; omega) | (simp; omega) | (simp; done) | (simp [size_ext_eq]; omega)) _))) (Nat.le_refl _)) hk0

set_option maxRecDepth 20000 in
set_option maxHeartbeats 1000000 in
theorem dec_Point (b : Bool) (w0 w : World) (gD gR si : Nat) (big : Bool) (bs r r2 : List Nat) (h : Rdr w0 w gR bs) (hd : w.cell? ⟨gD, 0, none⟩ = some (rdrV gR)) (hgD : gD < w.heap.size) (hne : gD ≠ gR) (G : World → Value → Prop)
    (hH : ∀ w', RdW w0 w' gR w.heap.size bs → Calls Tryz.prog 58 #[rdrV gR, .slice (some ⟨w.heap.size, 0, none⟩) 8 8] w' (RetHd true w0 gR w.heap.size 1 si big r2 w'))
    (hG : ∀ w' w2 v, Kp w' w2 → G w' v → G w2 v)
    (hX : ∀ w', w.heap.size ≤ w'.heap.size → RdW w0 w' gR w.heap.size r2 → Calls Tryz.prog 59 #[rdrV gR, .int .i64 (ordI big), .slice (some ⟨w.heap.size, 0, none⟩) 8 8] w' (RetRd b w0 gR w.heap.size r w' G (.agg #[.float .f64 0, .float .f64 0]))) :
    Calls Tryz.prog 40 #[.pointer (some ⟨gD, 0, none⟩)] w (RetDc b w0 gR r w (fun w2 v => ∃ u, v = .iface 88 u ∧ G w2 u) (si : Int)) := by
  have HH := Lib.hid hH
  have HX := Lib.hid hX
  have H0 := Lib.hid (RdW.new h)
  have HG := Lib.hid hG
  have hn2 : gD ∉ [gR, w.heap.size] := by simp; omega
  unfold rdrV at hd HH HX
  clear hH h hX hG
  cases b
  · go_enter Tryz.func40, Tryz.ntmps40
    go_wp2_with (first | (go_at_call 58; (with_reducible refine (HH.out _ (H0.out.kp (by repeat (first | (with_reducible exact Kp.refl _) | (with_reducible assumption) | (with_reducible apply Kp.ext) | (with_reducible apply Kp.alloc) | (with_reducible apply Kp.drew) | (with_reducible apply Kp.drewN) | (with_reducible refine Kp.setCell ?_ (by first | (dsimp only; omega) | (simp; omega) | (simp; done) | (simp [size_ext_eq]; omega)) _))))).mono ?_); rintro e w1 h2; obtain ⟨rfl, hrd, hk⟩ := h2.yes; have Hrd := Lib.hid hrd; have hd1 := (hk.cell (o := 0) (by simp; omega) hn2).trans (Kp.cell (show Kp w _ from (by repeat (first | (with_reducible exact Kp.refl _) | (with_reducible assumption) | (with_reducible apply Kp.ext) | (with_reducible apply Kp.alloc) | (with_reducible apply Kp.drew) | (with_reducible apply Kp.drewN) | (with_reducible refine Kp.setCell ?_ (by first | (dsimp only; omega) | (simp; omega) | (simp; done) | (simp [size_ext_eq]; omega)) _)))) hd hgD); have hl1 := Nat.lt_of_lt_of_le hgD (hk.drop (show Kp w _ from (by repeat (first | (with_reducible exact Kp.refl _) | (with_reducible assumption) | (with_reducible apply Kp.ext) | (with_reducible apply Kp.alloc) | (with_reducible apply Kp.drew) | (with_reducible apply Kp.drewN) | (with_reducible refine Kp.setCell ?_ (by first | (dsimp only; omega) | (simp; omega) | (simp; done) | (simp [size_ext_eq]; omega)) _)))) (Nat.le_refl _)).size; have hl2 := (hk.drop (show Kp w _ from (by repeat (first | (with_reducible exact Kp.refl _) | (with_reducible assumption) | (with_reducible apply Kp.ext) | (with_reducible apply Kp.alloc) | (with_reducible apply Kp.drew) | (with_reducible apply Kp.drewN) | (with_reducible refine Kp.setCell ?_ (by first | (dsimp only; omega) | (simp; omega) | (simp; done) | (simp [size_ext_eq]; omega)) _)))) (Nat.le_refl _)).size; clear h2 hrd) | (go_at_call 59; (with_reducible refine (HX.out _ (by first | omega | (simp; omega)) (Hrd.out.kp (by repeat (first | (with_reducible exact Kp.refl _) | (with_reducible assumption) | (with_reducible apply Kp.ext) | (with_reducible apply Kp.alloc) | (with_reducible apply Kp.drew) | (with_reducible apply Kp.drewN) | (with_reducible refine Kp.setCell ?_ (by first | (dsimp only; omega) | (simp; omega) | (simp; done) | (simp [size_ext_eq]; omega)) _))))).mono ?_); rintro e w2 h3; obtain ⟨a, hea, rfl, hk2, hk0⟩ := h3.no; have HE := Lib.hid hea; clear h3 hea))
    refine bodyPost_ret (v := .tuple #[.nilIface, .int .i64 0, .iface 191 (.pointer (some a))]) (by simp [results, Tryz.results40, go_sem]) rfl ?_
    exact .mk0 (HE.out.kp (by repeat (first | (with_reducible exact Kp.refl _) | (with_reducible assumption) | (with_reducible apply Kp.ext) | (with_reducible apply Kp.alloc) | (with_reducible apply Kp.drew) | (with_reducible apply Kp.drewN) | (with_reducible refine Kp.setCell ?_ (by first | (dsimp only; omega) | (simp; omega) | (simp; done) | (simp [size_ext_eq]; omega)) _)))) (((hk.trans ((Kx.of_kp (by repeat (first | (with_reducible exact Kp.refl _) | (with_reducible assumption) | (with_reducible apply Kp.ext) | (with_reducible apply Kp.alloc) | (with_reducible apply Kp.drew) | (with_reducible apply Kp.drewN) | (with_reducible refine Kp.setCell ?_ (by first | (dsimp only; omega) | (simp; omega) | (simp; done) | (simp [size_ext_eq]; omega)) _)))).trans hk2)).trans (Kx.of_kp (by repeat (first | (with_reducible exact Kp.refl _) | (with_reducible assumption) | (with_reducible apply Kp.ext) | (with_reducible apply Kp.alloc) | (with_reducible apply Kp.drew) | (with_reducible apply Kp.drewN) | (with_reducible refine Kp.setCell ?_ (by first | (dsimp only; omega) | (simp; omega) | (simp; done) | (simp [size_ext_eq]; omega)) _))))).drop (show Kp w _ from (by repeat (first | (with_reducible exact Kp.refl _) | (with_reducible assumption) | (with_reducible apply Kp.ext) | (with_reducible apply Kp.alloc) | (with_reducible apply Kp.drew) | (with_reducible apply Kp.drewN) | (with_reducible refine Kp.setCell ?_ (by first | (dsimp only; omega) | (simp; omega) | (simp; done) | (simp [size_ext_eq]; omega)) _)))) (Nat.le_refl _)) (hk0.trans (by repeat (first | (with_reducible exact Kp.refl _) | (with_reducible assumption) | (with_reducible apply Kp.ext) | (with_reducible apply Kp.alloc) | (with_reducible apply Kp.drew) | (with_reducible apply Kp.drewN) | (with_reducible refine Kp.setCell ?_ (by first | (dsimp only; omega) | (simp; omega) | (simp; done) | (simp [size_ext_eq]; omega)) _))))
  · go_enter Tryz.func40, Tryz.ntmps40
    go_wp2_with (first | (go_at_call 58; (with_reducible refine (HH.out _ (H0.out.kp (by repeat (first | (with_reducible exact Kp.refl _) | (with_reducible assumption) | (with_reducible apply Kp.ext) | (with_reducible apply Kp.alloc) | (with_reducible apply Kp.drew) | (with_reducible apply Kp.drewN) | (with_reducible refine Kp.setCell ?_ (by first | (dsimp only; omega) | (simp; omega) | (simp; done) | (simp [size_ext_eq]; omega)) _))))).mono ?_); rintro e w1 h2; obtain ⟨rfl, hrd, hk⟩ := h2.yes; have Hrd := Lib.hid hrd; have hd1 := (hk.cell (o := 0) (by simp; omega) hn2).trans (Kp.cell (show Kp w _ from (by repeat (first | (with_reducible exact Kp.refl _) | (with_reducible assumption) | (with_reducible apply Kp.ext) | (with_reducible apply Kp.alloc) | (with_reducible apply Kp.drew) | (with_reducible apply Kp.drewN) | (with_reducible refine Kp.setCell ?_ (by first | (dsimp only; omega) | (simp; omega) | (simp; done) | (simp [size_ext_eq]; omega)) _)))) hd hgD); have hl1 := Nat.lt_of_lt_of_le hgD (hk.drop (show Kp w _ from (by repeat (first | (with_reducible exact Kp.refl _) | (with_reducible assumption) | (with_reducible apply Kp.ext) | (with_reducible apply Kp.alloc) | (with_reducible apply Kp.drew) | (with_reducible apply Kp.drewN) | (with_reducible refine Kp.setCell ?_ (by first | (dsimp only; omega) | (simp; omega) | (simp; done) | (simp [size_ext_eq]; omega)) _)))) (Nat.le_refl _)).size; have hl2 := (hk.drop (show Kp w _ from (by repeat (first | (with_reducible exact Kp.refl _) | (with_reducible assumption) | (with_reducible apply Kp.ext) | (with_reducible apply Kp.alloc) | (with_reducible apply Kp.drew) | (with_reducible apply Kp.drewN) | (with_reducible refine Kp.setCell ?_ (by first | (dsimp only; omega) | (simp; omega) | (simp; done) | (simp [size_ext_eq]; omega)) _)))) (Nat.le_refl _)).size; clear h2 hrd) | (go_at_call 59; (with_reducible refine (HX.out _ (by first | omega | (simp; omega)) (Hrd.out.kp (by repeat (first | (with_reducible exact Kp.refl _) | (with_reducible assumption) | (with_reducible apply Kp.ext) | (with_reducible apply Kp.alloc) | (with_reducible apply Kp.drew) | (with_reducible apply Kp.drewN) | (with_reducible refine Kp.setCell ?_ (by first | (dsimp only; omega) | (simp; omega) | (simp; done) | (simp [size_ext_eq]; omega)) _))))).mono ?_); rintro e w2 h3; obtain ⟨v', rfl, hrd2, hk2, hpb⟩ := h3.yes; have Hpb := Lib.hid hpb; have Hrd2 := Lib.hid hrd2; clear h3 hrd2 hpb))
    refine bodyPost_ret (v := .tuple #[.iface 88 v', .int .i64 si, .nilIface]) (by simp [results, Tryz.results40, go_sem]) rfl ?_
    exact .mk1 (Hrd2.out.rd.kp' (by repeat (first | (with_reducible exact Kp.refl _) | (with_reducible assumption) | (with_reducible apply Kp.ext) | (with_reducible apply Kp.alloc) | (with_reducible apply Kp.drew) | (with_reducible apply Kp.drewN) | (with_reducible refine Kp.setCell ?_ (by first | (dsimp only; omega) | (simp; omega) | (simp; done) | (simp [size_ext_eq]; omega)) _)))) (((hk.trans ((Kx.of_kp (by repeat (first | (with_reducible exact Kp.refl _) | (with_reducible assumption) | (with_reducible apply Kp.ext) | (with_reducible apply Kp.alloc) | (with_reducible apply Kp.drew) | (with_reducible apply Kp.drewN) | (with_reducible refine Kp.setCell ?_ (by first | (dsimp only; omega) | (simp; omega) | (simp; done) | (simp [size_ext_eq]; omega)) _)))).trans hk2)).trans (Kx.of_kp (by repeat (first | (with_reducible exact Kp.refl _) | (with_reducible assumption) | (with_reducible apply Kp.ext) | (with_reducible apply Kp.alloc) | (with_reducible apply Kp.drew) | (with_reducible apply Kp.drewN) | (with_reducible refine Kp.setCell ?_ (by first | (dsimp only; omega) | (simp; omega) | (simp; done) | (simp [size_ext_eq]; omega)) _))))).drop (show Kp w _ from (by repeat (first | (with_reducible exact Kp.refl _) | (with_reducible assumption) | (with_reducible apply Kp.ext) | (with_reducible apply Kp.alloc) | (with_reducible apply Kp.drew) | (with_reducible apply Kp.drewN) | (with_reducible refine Kp.setCell ?_ (by first | (dsimp only; omega) | (simp; omega) | (simp; done) | (simp [size_ext_eq]; omega)) _)))) (Nat.le_refl _)) ⟨v', rfl, HG.out _ _ _ (by repeat (first | (with_reducible exact Kp.refl _) | (with_reducible assumption) | (with_reducible apply Kp.ext) | (with_reducible apply Kp.alloc) | (with_reducible apply Kp.drew) | (with_reducible apply Kp.drewN) | (with_reducible refine Kp.setCell ?_ (by first | (dsimp only; omega) | (simp; omega) | (simp; done) | (simp [size_ext_eq]; omega)) _))) Hpb.out⟩

set_option maxRecDepth 20000 in
set_option maxHeartbeats 1000000 in
theorem dec_MultiPoint (b : Bool) (w0 w : World) (gD gR si : Nat) (big : Bool) (bs r r2 : List Nat) (h : Rdr w0 w gR bs) (hd : w.cell? ⟨gD, 0, none⟩ = some (rdrV gR)) (hgD : gD < w.heap.size) (hne : gD ≠ gR) (G : World → Value → Prop)
    (hH : ∀ w', RdW w0 w' gR w.heap.size bs → Calls Tryz.prog 58 #[rdrV gR, .slice (some ⟨w.heap.size, 0, none⟩) 8 8] w' (RetHd true w0 gR w.heap.size 4 si big r2 w'))
    (hG : ∀ w' w2 v, Kp w' w2 → G w' v → G w2 v)
    (hX : ∀ w', w.heap.size ≤ w'.heap.size → RdW w0 w' gR w.heap.size r2 → Calls Tryz.prog 60 #[rdrV gR, .int .i64 (ordI big), .slice (some ⟨w.heap.size, 0, none⟩) 8 8] w' (RetRd b w0 gR w.heap.size r w' G (.slice none 0 0))) :
    Calls Tryz.prog 40 #[.pointer (some ⟨gD, 0, none⟩)] w (RetDc b w0 gR r w (fun w2 v => ∃ u, v = .iface 95 u ∧ G w2 u) (si : Int)) := by
  have HH := Lib.hid hH
  have HX := Lib.hid hX
  have H0 := Lib.hid (RdW.new h)
  have HG := Lib.hid hG
  have hn2 : gD ∉ [gR, w.heap.size] := by simp; omega
  unfold rdrV at hd HH HX
  clear hH h hX hG
  cases b
  · go_enter Tryz.func40, Tryz.ntmps40
    go_wp2_with (first | (go_at_call 58; (with_reducible refine (HH.out _ (H0.out.kp (by repeat (first | (with_reducible exact Kp.refl _) | (with_reducible assumption) | (with_reducible apply Kp.ext) | (with_reducible apply Kp.alloc) | (with_reducible apply Kp.drew) | (with_reducible apply Kp.drewN) | (with_reducible refine Kp.setCell ?_ (by first | (dsimp only; omega) | (simp; omega) | (simp; done) | (simp [size_ext_eq]; omega)) _))))).mono ?_); rintro e w1 h2; obtain ⟨rfl, hrd, hk⟩ := h2.yes; have Hrd := Lib.hid hrd; have hd1 := (hk.cell (o := 0) (by simp; omega) hn2).trans (Kp.cell (show Kp w _ from (by repeat (first | (with_reducible exact Kp.refl _) | (with_reducible assumption) | (with_reducible apply Kp.ext) | (with_reducible apply Kp.alloc) | (with_reducible apply Kp.drew) | (with_reducible apply Kp.drewN) | (with_reducible refine Kp.setCell ?_ (by first | (dsimp only; omega) | (simp; omega) | (simp; done) | (simp [size_ext_eq]; omega)) _)))) hd hgD); have hl1 := Nat.lt_of_lt_of_le hgD (hk.drop (show Kp w _ from (by repeat (first | (with_reducible exact Kp.refl _) | (with_reducible assumption) | (with_reducible apply Kp.ext) | (with_reducible apply Kp.alloc) | (with_reducible apply Kp.drew) | (with_reducible apply Kp.drewN) | (with_reducible refine Kp.setCell ?_ (by first | (dsimp only; omega) | (simp; omega) | (simp; done) | (simp [size_ext_eq]; omega)) _)))) (Nat.le_refl _)).size; have hl2 := (hk.drop (show Kp w _ from (by repeat (first | (with_reducible exact Kp.refl _) | (with_reducible assumption) | (with_reducible apply Kp.ext) | (with_reducible apply Kp.alloc) | (with_reducible apply Kp.drew) | (with_reducible apply Kp.drewN) | (with_reducible refine Kp.setCell ?_ (by first | (dsimp only; omega) | (simp; omega) | (simp; done) | (simp [size_ext_eq]; omega)) _)))) (Nat.le_refl _)).size; clear h2 hrd) | (go_at_call 60; (with_reducible refine (HX.out _ (by first | omega | (simp; omega)) (Hrd.out.kp (by repeat (first | (with_reducible exact Kp.refl _) | (with_reducible assumption) | (with_reducible apply Kp.ext) | (with_reducible apply Kp.alloc) | (with_reducible apply Kp.drew) | (with_reducible apply Kp.drewN) | (with_reducible refine Kp.setCell ?_ (by first | (dsimp only; omega) | (simp; omega) | (simp; done) | (simp [size_ext_eq]; omega)) _))))).mono ?_); rintro e w2 h3; obtain ⟨a, hea, rfl, hk2, hk0⟩ := h3.no; have HE := Lib.hid hea; clear h3 hea))
    refine bodyPost_ret (v := .tuple #[.nilIface, .int .i64 0, .iface 191 (.pointer (some a))]) (by simp [results, Tryz.results40, go_sem]) rfl ?_
    exact .mk0 (HE.out.kp (by repeat (first | (with_reducible exact Kp.refl _) | (with_reducible assumption) | (with_reducible apply Kp.ext) | (with_reducible apply Kp.alloc) | (with_reducible apply Kp.drew) | (with_reducible apply Kp.drewN) | (with_reducible refine Kp.setCell ?_ (by first | (dsimp only; omega) | (simp; omega) | (simp; done) | (simp [size_ext_eq]; omega)) _)))) (((hk.trans ((Kx.of_kp (by repeat (first | (with_reducible exact Kp.refl _) | (with_reducible assumption) | (with_reducible apply Kp.ext) | (with_reducible apply Kp.alloc) | (with_reducible apply Kp.drew) | (with_reducible apply Kp.drewN) | (with_reducible refine Kp.setCell ?_ (by first | (dsimp only; omega) | (simp; omega) | (simp; done) | (simp [size_ext_eq]; omega)) _)))).trans hk2)).trans (Kx.of_kp (by repeat (first | (with_reducible exact Kp.refl _) | (with_reducible assumption) | (with_reducible apply Kp.ext) | (with_reducible apply Kp.alloc) | (with_reducible apply Kp.drew) | (with_reducible apply Kp.drewN) | (with_reducible refine Kp.setCell ?_ (by first | (dsimp only; omega) | (simp; omega) | (simp; done) | (simp [size_ext_eq]; omega)) _))))).drop (show Kp w _ from (by repeat (first | (with_reducible exact Kp.refl _) | (with_reducible assumption) | (with_reducible apply Kp.ext) | (with_reducible apply Kp.alloc) | (with_reducible apply Kp.drew) | (with_reducible apply Kp.drewN) | (with_reducible refine Kp.setCell ?_ (by first | (dsimp only; omega) | (simp; omega) | (simp; done) | (simp [size_ext_eq]; omega)) _)))) (Nat.le_refl _)) (hk0.trans (by repeat (first | (with_reducible exact Kp.refl _) | (with_reducible assumption) | (with_reducible apply Kp.ext) | (with_reducible apply Kp.alloc) | (with_reducible apply Kp.drew) | (with_reducible apply Kp.drewN) | (with_reducible refine Kp.setCell ?_ (by first | (dsimp only; omega) | (simp; omega) | (simp; done) | (simp [size_ext_eq]; omega)) _))))
  · go_enter Tryz.func40, Tryz.ntmps40
    go_wp2_with (first | (go_at_call 58; (with_reducible refine (HH.out _ (H0.out.kp (by repeat (first | (with_reducible exact Kp.refl _) | (with_reducible assumption) | (with_reducible apply Kp.ext) | (with_reducible apply Kp.alloc) | (with_reducible apply Kp.drew) | (with_reducible apply Kp.drewN) | (with_reducible refine Kp.setCell ?_ (by first | (dsimp only; omega) | (simp; omega) | (simp; done) | (simp [size_ext_eq]; omega)) _))))).mono ?_); rintro e w1 h2; obtain ⟨rfl, hrd, hk⟩ := h2.yes; have Hrd := Lib.hid hrd; have hd1 := (hk.cell (o := 0) (by simp; omega) hn2).trans (Kp.cell (show Kp w _ from (by repeat (first | (with_reducible exact Kp.refl _) | (with_reducible assumption) | (with_reducible apply Kp.ext) | (with_reducible apply Kp.alloc) | (with_reducible apply Kp.drew) | (with_reducible apply Kp.drewN) | (with_reducible refine Kp.setCell ?_ (by first | (dsimp only; omega) | (simp; omega) | (simp; done) | (simp [size_ext_eq]; omega)) _)))) hd hgD); have hl1 := Nat.lt_of_lt_of_le hgD (hk.drop (show Kp w _ from (by repeat (first | (with_reducible exact Kp.refl _) | (with_reducible assumption) | (with_reducible apply Kp.ext) | (with_reducible apply Kp.alloc) | (with_reducible apply Kp.drew) | (with_reducible apply Kp.drewN) | (with_reducible refine Kp.setCell ?_ (by first | (dsimp only; omega) | (simp; omega) | (simp; done) | (simp [size_ext_eq]; omega)) _)))) (Nat.le_refl _)).size; have hl2 := (hk.drop (show Kp w _ from (by repeat (first | (with_reducible exact Kp.refl _) | (with_reducible assumption) | (with_reducible apply Kp.ext) | (with_reducible apply Kp.alloc) | (with_reducible apply Kp.drew) | (with_reducible apply Kp.drewN) | (with_reducible refine Kp.setCell ?_ (by first | (dsimp only; omega) | (simp; omega) | (simp; done) | (simp [size_ext_eq]; omega)) _)))) (Nat.le_refl _)).size; clear h2 hrd) | (go_at_call 60; (with_reducible refine (HX.out _ (by first | omega | (simp; omega)) (Hrd.out.kp (by repeat (first | (with_reducible exact Kp.refl _) | (with_reducible assumption) | (with_reducible apply Kp.ext) | (with_reducible apply Kp.alloc) | (with_reducible apply Kp.drew) | (with_reducible apply Kp.drewN) | (with_reducible refine Kp.setCell ?_ (by first | (dsimp only; omega) | (simp; omega) | (simp; done) | (simp [size_ext_eq]; omega)) _))))).mono ?_); rintro e w2 h3; obtain ⟨v', rfl, hrd2, hk2, hpb⟩ := h3.yes; have Hpb := Lib.hid hpb; have Hrd2 := Lib.hid hrd2; clear h3 hrd2 hpb))
    refine bodyPost_ret (v := .tuple #[.iface 95 v', .int .i64 si, .nilIface]) (by simp [results, Tryz.results40, go_sem]) rfl ?_
    exact .mk1 (Hrd2.out.rd.kp' (by repeat (first | (with_reducible exact Kp.refl _) | (with_reducible assumption) | (with_reducible apply Kp.ext) | (with_reducible apply Kp.alloc) | (with_reducible apply Kp.drew) | (with_reducible apply Kp.drewN) | (with_reducible refine Kp.setCell ?_ (by first | (dsimp only; omega) | (simp; omega) | (simp; done) | (simp [size_ext_eq]; omega)) _)))) (((hk.trans ((Kx.of_kp (by repeat (first | (with_reducible exact Kp.refl _) | (with_reducible assumption) | (with_reducible apply Kp.ext) | (with_reducible apply Kp.alloc) | (with_reducible apply Kp.drew) | (with_reducible apply Kp.drewN) | (with_reducible refine Kp.setCell ?_ (by first | (dsimp only; omega) | (simp; omega) | (simp; done) | (simp [size_ext_eq]; omega)) _)))).trans hk2)).trans (Kx.of_kp (by repeat (first | (with_reducible exact Kp.refl _) | (with_reducible assumption) | (with_reducible apply Kp.ext) | (with_reducible apply Kp.alloc) | (with_reducible apply Kp.drew) | (with_reducible apply Kp.drewN) | (with_reducible refine Kp.setCell ?_ (by first | (dsimp only; omega) | (simp; omega) | (simp; done) | (simp [size_ext_eq]; omega)) _))))).drop (show Kp w _ from (by repeat (first | (with_reducible exact Kp.refl _) | (with_reducible assumption) | (with_reducible apply Kp.ext) | (with_reducible apply Kp.alloc) | (with_reducible apply Kp.drew) | (with_reducible apply Kp.drewN) | (with_reducible refine Kp.setCell ?_ (by first | (dsimp only; omega) | (simp; omega) | (simp; done) | (simp [size_ext_eq]; omega)) _)))) (Nat.le_refl _)) ⟨v', rfl, HG.out _ _ _ (by repeat (first | (with_reducible exact Kp.refl _) | (with_reducible assumption) | (with_reducible apply Kp.ext) | (with_reducible apply Kp.alloc) | (with_reducible apply Kp.drew) | (with_reducible apply Kp.drewN) | (with_reducible refine Kp.setCell ?_ (by first | (dsimp only; omega) | (simp; omega) | (simp; done) | (simp [size_ext_eq]; omega)) _))) Hpb.out⟩

set_option maxRecDepth 20000 in
set_option maxHeartbeats 1000000 in
theorem dec_LineString (b : Bool) (w0 w : World) (gD gR si : Nat) (big : Bool) (bs r r2 : List Nat) (h : Rdr w0 w gR bs) (hd : w.cell? ⟨gD, 0, none⟩ = some (rdrV gR)) (hgD : gD < w.heap.size) (hne : gD ≠ gR) (G : World → Value → Prop)
    (hH : ∀ w', RdW w0 w' gR w.heap.size bs → Calls Tryz.prog 58 #[rdrV gR, .slice (some ⟨w.heap.size, 0, none⟩) 8 8] w' (RetHd true w0 gR w.heap.size 2 si big r2 w'))
    (hG : ∀ w' w2 v, Kp w' w2 → G w' v → G w2 v)
    (hX : ∀ w', w.heap.size ≤ w'.heap.size → RdW w0 w' gR w.heap.size r2 → Calls Tryz.prog 61 #[rdrV gR, .int .i64 (ordI big), .slice (some ⟨w.heap.size, 0, none⟩) 8 8] w' (RetRd b w0 gR w.heap.size r w' G (.slice none 0 0))) :
    Calls Tryz.prog 40 #[.pointer (some ⟨gD, 0, none⟩)] w (RetDc b w0 gR r w (fun w2 v => ∃ u, v = .iface 91 u ∧ G w2 u) (si : Int)) := by
  have HH := Lib.hid hH
  have HX := Lib.hid hX
  have H0 := Lib.hid (RdW.new h)
  have HG := Lib.hid hG
  have hn2 : gD ∉ [gR, w.heap.size] := by simp; omega
  unfold rdrV at hd HH HX
  clear hH h hX hG
  cases b
  · go_enter Tryz.func40, Tryz.ntmps40
    go_wp2_with (first | (go_at_call 58; (with_reducible refine (HH.out _ (H0.out.kp (by repeat (first | (with_reducible exact Kp.refl _) | (with_reducible assumption) | (with_reducible apply Kp.ext) | (with_reducible apply Kp.alloc) | (with_reducible apply Kp.drew) | (with_reducible apply Kp.drewN) | (with_reducible refine Kp.setCell ?_ (by first | (dsimp only; omega) | (simp; omega) | (simp; done) | (simp [size_ext_eq]; omega)) _))))).mono ?_); rintro e w1 h2; obtain ⟨rfl, hrd, hk⟩ := h2.yes; have Hrd := Lib.hid hrd; have hd1 := (hk.cell (o := 0) (by simp; omega) hn2).trans (Kp.cell (show Kp w _ from (by repeat (first | (with_reducible exact Kp.refl _) | (with_reducible assumption) | (with_reducible apply Kp.ext) | (with_reducible apply Kp.alloc) | (with_reducible apply Kp.drew) | (with_reducible apply Kp.drewN) | (with_reducible refine Kp.setCell ?_ (by first | (dsimp only; omega) | (simp; omega) | (simp; done) | (simp [size_ext_eq]; omega)) _)))) hd hgD); have hl1 := Nat.lt_of_lt_of_le hgD (hk.drop (show Kp w _ from (by repeat (first | (with_reducible exact Kp.refl _) | (with_reducible assumption) | (with_reducible apply Kp.ext) | (with_reducible apply Kp.alloc) | (with_reducible apply Kp.drew) | (with_reducible apply Kp.drewN) | (with_reducible refine Kp.setCell ?_ (by first | (dsimp only; omega) | (simp; omega) | (simp; done) | (simp [size_ext_eq]; omega)) _)))) (Nat.le_refl _)).size; have hl2 := (hk.drop (show Kp w _ from (by repeat (first | (with_reducible exact Kp.refl _) | (with_reducible assumption) | (with_reducible apply Kp.ext) | (with_reducible apply Kp.alloc) | (with_reducible apply Kp.drew) | (with_reducible apply Kp.drewN) | (with_reducible refine Kp.setCell ?_ (by first | (dsimp only; omega) | (simp; omega) | (simp; done) | (simp [size_ext_eq]; omega)) _)))) (Nat.le_refl _)).size; clear h2 hrd) | (go_at_call 61; (with_reducible refine (HX.out _ (by first | omega | (simp; omega)) (Hrd.out.kp (by repeat (first | (with_reducible exact Kp.refl _) | (with_reducible assumption) | (with_reducible apply Kp.ext) | (with_reducible apply Kp.alloc) | (with_reducible apply Kp.drew) | (with_reducible apply Kp.drewN) | (with_reducible refine Kp.setCell ?_ (by first | (dsimp only; omega) | (simp; omega) | (simp; done) | (simp [size_ext_eq]; omega)) _))))).mono ?_); rintro e w2 h3; obtain ⟨a, hea, rfl, hk2, hk0⟩ := h3.no; have HE := Lib.hid hea; clear h3 hea))
    refine bodyPost_ret (v := .tuple #[.nilIface, .int .i64 0, .iface 191 (.pointer (some a))]) (by simp [results, Tryz.results40, go_sem]) rfl ?_
    exact .mk0 (HE.out.kp (by repeat (first | (with_reducible exact Kp.refl _) | (with_reducible assumption) | (with_reducible apply Kp.ext) | (with_reducible apply Kp.alloc) | (with_reducible apply Kp.drew) | (with_reducible apply Kp.drewN) | (with_reducible refine Kp.setCell ?_ (by first | (dsimp only; omega) | (simp; omega) | (simp; done) | (simp [size_ext_eq]; omega)) _)))) (((hk.trans ((Kx.of_kp (by repeat (first | (with_reducible exact Kp.refl _) | (with_reducible assumption) | (with_reducible apply Kp.ext) | (with_reducible apply Kp.alloc) | (with_reducible apply Kp.drew) | (with_reducible apply Kp.drewN) | (with_reducible refine Kp.setCell ?_ (by first | (dsimp only; omega) | (simp; omega) | (simp; done) | (simp [size_ext_eq]; omega)) _)))).trans hk2)).trans (Kx.of_kp (by repeat (first | (with_reducible exact Kp.refl _) | (with_reducible assumption) | (with_reducible apply Kp.ext) | (with_reducible apply Kp.alloc) | (with_reducible apply Kp.drew) | (with_reducible apply Kp.drewN) | (with_reducible refine Kp.setCell ?_ (by first | (dsimp only; omega) | (simp; omega) | (simp; done) | (simp [size_ext_eq]; omega)) _))))).drop (show Kp w _ from (by repeat (first | (with_reducible exact Kp.refl _) | (with_reducible assumption) | (with_reducible apply Kp.ext) | (with_reducible apply Kp.alloc) | (with_reducible apply Kp.drew) | (with_reducible apply Kp.drewN) | (with_reducible refine Kp.setCell ?_ (by first | (dsimp only; omega) | (simp; omega) | (simp; done) | (simp [size_ext_eq]; omega)) _)))) (Nat.le_refl _)) (hk0.trans (by repeat (first | (with_reducible exact Kp.refl _) | (with_reducible assumption) | (with_reducible apply Kp.ext) | (with_reducible apply Kp.alloc) | (with_reducible apply Kp.drew) | (with_reducible apply Kp.drewN) | (with_reducible refine Kp.setCell ?_ (by first | (dsimp only; omega) | (simp; omega) | (simp; done) | (simp [size_ext_eq]; omega)) _))))
  · go_enter Tryz.func40, Tryz.ntmps40
    go_wp2_with (first | (go_at_call 58; (with_reducible refine (HH.out _ (H0.out.kp (by repeat (first | (with_reducible exact Kp.refl _) | (with_reducible assumption) | (with_reducible apply Kp.ext) | (with_reducible apply Kp.alloc) | (with_reducible apply Kp.drew) | (with_reducible apply Kp.drewN) | (with_reducible refine Kp.setCell ?_ (by first | (dsimp only; omega) | (simp; omega) | (simp; done) | (simp [size_ext_eq]; omega)) _))))).mono ?_); rintro e w1 h2; obtain ⟨rfl, hrd, hk⟩ := h2.yes; have Hrd := Lib.hid hrd; have hd1 := (hk.cell (o := 0) (by simp; omega) hn2).trans (Kp.cell (show Kp w _ from (by repeat (first | (with_reducible exact Kp.refl _) | (with_reducible assumption) | (with_reducible apply Kp.ext) | (with_reducible apply Kp.alloc) | (with_reducible apply Kp.drew) | (with_reducible apply Kp.drewN) | (with_reducible refine Kp.setCell ?_ (by first | (dsimp only; omega) | (simp; omega) | (simp; done) | (simp [size_ext_eq]; omega)) _)))) hd hgD); have hl1 := Nat.lt_of_lt_of_le hgD (hk.drop (show Kp w _ from (by repeat (first | (with_reducible exact Kp.refl _) | (with_reducible assumption) | (with_reducible apply Kp.ext) | (with_reducible apply Kp.alloc) | (with_reducible apply Kp.drew) | (with_reducible apply Kp.drewN) | (with_reducible refine Kp.setCell ?_ (by first | (dsimp only; omega) | (simp; omega) | (simp; done) | (simp [size_ext_eq]; omega)) _)))) (Nat.le_refl _)).size; have hl2 := (hk.drop (show Kp w _ from (by repeat (first | (with_reducible exact Kp.refl _) | (with_reducible assumption) | (with_reducible apply Kp.ext) | (with_reducible apply Kp.alloc) | (with_reducible apply Kp.drew) | (with_reducible apply Kp.drewN) | (with_reducible refine Kp.setCell ?_ (by first | (dsimp only; omega) | (simp; omega) | (simp; done) | (simp [size_ext_eq]; omega)) _)))) (Nat.le_refl _)).size; clear h2 hrd) | (go_at_call 61; (with_reducible refine (HX.out _ (by first | omega | (simp; omega)) (Hrd.out.kp (by repeat (first | (with_reducible exact Kp.refl _) | (with_reducible assumption) | (with_reducible apply Kp.ext) | (with_reducible apply Kp.alloc) | (with_reducible apply Kp.drew) | (with_reducible apply Kp.drewN) | (with_reducible refine Kp.setCell ?_ (by first | (dsimp only; omega) | (simp; omega) | (simp; done) | (simp [size_ext_eq]; omega)) _))))).mono ?_); rintro e w2 h3; obtain ⟨v', rfl, hrd2, hk2, hpb⟩ := h3.yes; have Hpb := Lib.hid hpb; have Hrd2 := Lib.hid hrd2; clear h3 hrd2 hpb))
    refine bodyPost_ret (v := .tuple #[.iface 91 v', .int .i64 si, .nilIface]) (by simp [results, Tryz.results40, go_sem]) rfl ?_
    exact .mk1 (Hrd2.out.rd.kp' (by repeat (first | (with_reducible exact Kp.refl _) | (with_reducible assumption) | (with_reducible apply Kp.ext) | (with_reducible apply Kp.alloc) | (with_reducible apply Kp.drew) | (with_reducible apply Kp.drewN) | (with_reducible refine Kp.setCell ?_ (by first | (dsimp only; omega) | (simp; omega) | (simp; done) | (simp [size_ext_eq]; omega)) _)))) (((hk.trans ((Kx.of_kp (by repeat (first | (with_reducible exact Kp.refl _) | (with_reducible assumption) | (with_reducible apply Kp.ext) | (with_reducible apply Kp.alloc) | (with_reducible apply Kp.drew) | (with_reducible apply Kp.drewN) | (with_reducible refine Kp.setCell ?_ (by first | (dsimp only; omega) | (simp; omega) | (simp; done) | (simp [size_ext_eq]; omega)) _)))).trans hk2)).trans (Kx.of_kp (by repeat (first | (with_reducible exact Kp.refl _) | (with_reducible assumption) | (with_reducible apply Kp.ext) | (with_reducible apply Kp.alloc) | (with_reducible apply Kp.drew) | (with_reducible apply Kp.drewN) | (with_reducible refine Kp.setCell ?_ (by first | (dsimp only; omega) | (simp; omega) | (simp; done) | (simp [size_ext_eq]; omega)) _))))).drop (show Kp w _ from (by repeat (first | (with_reducible exact Kp.refl _) | (with_reducible assumption) | (with_reducible apply Kp.ext) | (with_reducible apply Kp.alloc) | (with_reducible apply Kp.drew) | (with_reducible apply Kp.drewN) | (with_reducible refine Kp.setCell ?_ (by first | (dsimp only; omega) | (simp; omega) | (simp; done) | (simp [size_ext_eq]; omega)) _)))) (Nat.le_refl _)) ⟨v', rfl, HG.out _ _ _ (by repeat (first | (with_reducible exact Kp.refl _) | (with_reducible assumption) | (with_reducible apply Kp.ext) | (with_reducible apply Kp.alloc) | (with_reducible apply Kp.drew) | (with_reducible apply Kp.drewN) | (with_reducible refine Kp.setCell ?_ (by first | (dsimp only; omega) | (simp; omega) | (simp; done) | (simp [size_ext_eq]; omega)) _))) Hpb.out⟩

set_option maxRecDepth 20000 in
set_option maxHeartbeats 1000000 in
theorem dec_MultiLineString (b : Bool) (w0 w : World) (gD gR si : Nat) (big : Bool) (bs r r2 : List Nat) (h : Rdr w0 w gR bs) (hd : w.cell? ⟨gD, 0, none⟩ = some (rdrV gR)) (hgD : gD < w.heap.size) (hne : gD ≠ gR) (G : World → Value → Prop)
    (hH : ∀ w', RdW w0 w' gR w.heap.size bs → Calls Tryz.prog 58 #[rdrV gR, .slice (some ⟨w.heap.size, 0, none⟩) 8 8] w' (RetHd true w0 gR w.heap.size 5 si big r2 w'))
    (hG : ∀ w' w2 v, Kp w' w2 → G w' v → G w2 v)
    (hX : ∀ w', w.heap.size ≤ w'.heap.size → RdW w0 w' gR w.heap.size r2 → Calls Tryz.prog 62 #[rdrV gR, .int .i64 (ordI big), .slice (some ⟨w.heap.size, 0, none⟩) 8 8] w' (RetRd b w0 gR w.heap.size r w' G (.slice none 0 0))) :
    Calls Tryz.prog 40 #[.pointer (some ⟨gD, 0, none⟩)] w (RetDc b w0 gR r w (fun w2 v => ∃ u, v = .iface 97 u ∧ G w2 u) (si : Int)) := by
  have HH := Lib.hid hH
  have HX := Lib.hid hX
  have H0 := Lib.hid (RdW.new h)
  have HG := Lib.hid hG
  have hn2 : gD ∉ [gR, w.heap.size] := by simp; omega
  unfold rdrV at hd HH HX
  clear hH h hX hG
  cases b
  · go_enter Tryz.func40, Tryz.ntmps40
    go_wp2_with (first | (go_at_call 58; (with_reducible refine (HH.out _ (H0.out.kp (by repeat (first | (with_reducible exact Kp.refl _) | (with_reducible assumption) | (with_reducible apply Kp.ext) | (with_reducible apply Kp.alloc) | (with_reducible apply Kp.drew) | (with_reducible apply Kp.drewN) | (with_reducible refine Kp.setCell ?_ (by first | (dsimp only; omega) | (simp; omega) | (simp; done) | (simp [size_ext_eq]; omega)) _))))).mono ?_); rintro e w1 h2; obtain ⟨rfl, hrd, hk⟩ := h2.yes; have Hrd := Lib.hid hrd; have hd1 := (hk.cell (o := 0) (by simp; omega) hn2).trans (Kp.cell (show Kp w _ from (by repeat (first | (with_reducible exact Kp.refl _) | (with_reducible assumption) | (with_reducible apply Kp.ext) | (with_reducible apply Kp.alloc) | (with_reducible apply Kp.drew) | (with_reducible apply Kp.drewN) | (with_reducible refine Kp.setCell ?_ (by first | (dsimp only; omega) | (simp; omega) | (simp; done) | (simp [size_ext_eq]; omega)) _)))) hd hgD); have hl1 := Nat.lt_of_lt_of_le hgD (hk.drop (show Kp w _ from (by repeat (first | (with_reducible exact Kp.refl _) | (with_reducible assumption) | (with_reducible apply Kp.ext) | (with_reducible apply Kp.alloc) | (with_reducible apply Kp.drew) | (with_reducible apply Kp.drewN) | (with_reducible refine Kp.setCell ?_ (by first | (dsimp only; omega) | (simp; omega) | (simp; done) | (simp [size_ext_eq]; omega)) _)))) (Nat.le_refl _)).size; have hl2 := (hk.drop (show Kp w _ from (by repeat (first | (with_reducible exact Kp.refl _) | (with_reducible assumption) | (with_reducible apply Kp.ext) | (with_reducible apply Kp.alloc) | (with_reducible apply Kp.drew) | (with_reducible apply Kp.drewN) | (with_reducible refine Kp.setCell ?_ (by first | (dsimp only; omega) | (simp; omega) | (simp; done) | (simp [size_ext_eq]; omega)) _)))) (Nat.le_refl _)).size; clear h2 hrd) | (go_at_call 62; (with_reducible refine (HX.out _ (by first | omega | (simp; omega)) (Hrd.out.kp (by repeat (first | (with_reducible exact Kp.refl _) | (with_reducible assumption) | (with_reducible apply Kp.ext) | (with_reducible apply Kp.alloc) | (with_reducible apply Kp.drew) | (with_reducible apply Kp.drewN) | (with_reducible refine Kp.setCell ?_ (by first | (dsimp only; omega) | (simp; omega) | (simp; done) | (simp [size_ext_eq]; omega)) _))))).mono ?_); rintro e w2 h3; obtain ⟨a, hea, rfl, hk2, hk0⟩ := h3.no; have HE := Lib.hid hea; clear h3 hea))
    refine bodyPost_ret (v := .tuple #[.nilIface, .int .i64 0, .iface 191 (.pointer (some a))]) (by simp [results, Tryz.results40, go_sem]) rfl ?_
    exact .mk0 (HE.out.kp (by repeat (first | (with_reducible exact Kp.refl _) | (with_reducible assumption) | (with_reducible apply Kp.ext) | (with_reducible apply Kp.alloc) | (with_reducible apply Kp.drew) | (with_reducible apply Kp.drewN) | (with_reducible refine Kp.setCell ?_ (by first | (dsimp only; omega) | (simp; omega) | (simp; done) | (simp [size_ext_eq]; omega)) _)))) (((hk.trans ((Kx.of_kp (by repeat (first | (with_reducible exact Kp.refl _) | (with_reducible assumption) | (with_reducible apply Kp.ext) | (with_reducible apply Kp.alloc) | (with_reducible apply Kp.drew) | (with_reducible apply Kp.drewN) | (with_reducible refine Kp.setCell ?_ (by first | (dsimp only; omega) | (simp; omega) | (simp; done) | (simp [size_ext_eq]; omega)) _)))).trans hk2)).trans (Kx.of_kp (by repeat (first | (with_reducible exact Kp.refl _) | (with_reducible assumption) | (with_reducible apply Kp.ext) | (with_reducible apply Kp.alloc) | (with_reducible apply Kp.drew) | (with_reducible apply Kp.drewN) | (with_reducible refine Kp.setCell ?_ (by first | (dsimp only; omega) | (simp; omega) | (simp; done) | (simp [size_ext_eq]; omega)) _))))).drop (show Kp w _ from (by repeat (first | (with_reducible exact Kp.refl _) | (with_reducible assumption) | (with_reducible apply Kp.ext) | (with_reducible apply Kp.alloc) | (with_reducible apply Kp.drew) | (with_reducible apply Kp.drewN) | (with_reducible refine Kp.setCell ?_ (by first | (dsimp only; omega) | (simp; omega) | (simp; done) | (simp [size_ext_eq]; omega)) _)))) (Nat.le_refl _)) (hk0.trans (by repeat (first | (with_reducible exact Kp.refl _) | (with_reducible assumption) | (with_reducible apply Kp.ext) | (with_reducible apply Kp.alloc) | (with_reducible apply Kp.drew) | (with_reducible apply Kp.drewN) | (with_reducible refine Kp.setCell ?_ (by first | (dsimp only; omega) | (simp; omega) | (simp; done) | (simp [size_ext_eq]; omega)) _))))
  · go_enter Tryz.func40, Tryz.ntmps40
    go_wp2_with (first | (go_at_call 58; (with_reducible refine (HH.out _ (H0.out.kp (by repeat (first | (with_reducible exact Kp.refl _) | (with_reducible assumption) | (with_reducible apply Kp.ext) | (with_reducible apply Kp.alloc) | (with_reducible apply Kp.drew) | (with_reducible apply Kp.drewN) | (with_reducible refine Kp.setCell ?_ (by first | (dsimp only; omega) | (simp; omega) | (simp; done) | (simp [size_ext_eq]; omega)) _))))).mono ?_); rintro e w1 h2; obtain ⟨rfl, hrd, hk⟩ := h2.yes; have Hrd := Lib.hid hrd; have hd1 := (hk.cell (o := 0) (by simp; omega) hn2).trans (Kp.cell (show Kp w _ from (by repeat (first | (with_reducible exact Kp.refl _) | (with_reducible assumption) | (with_reducible apply Kp.ext) | (with_reducible apply Kp.alloc) | (with_reducible apply Kp.drew) | (with_reducible apply Kp.drewN) | (with_reducible refine Kp.setCell ?_ (by first | (dsimp only; omega) | (simp; omega) | (simp; done) | (simp [size_ext_eq]; omega)) _)))) hd hgD); have hl1 := Nat.lt_of_lt_of_le hgD (hk.drop (show Kp w _ from (by repeat (first | (with_reducible exact Kp.refl _) | (with_reducible assumption) | (with_reducible apply Kp.ext) | (with_reducible apply Kp.alloc) | (with_reducible apply Kp.drew) | (with_reducible apply Kp.drewN) | (with_reducible refine Kp.setCell ?_ (by first | (dsimp only; omega) | (simp; omega) | (simp; done) | (simp [size_ext_eq]; omega)) _)))) (Nat.le_refl _)).size; have hl2 := (hk.drop (show Kp w _ from (by repeat (first | (with_reducible exact Kp.refl _) | (with_reducible assumption) | (with_reducible apply Kp.ext) | (with_reducible apply Kp.alloc) | (with_reducible apply Kp.drew) | (with_reducible apply Kp.drewN) | (with_reducible refine Kp.setCell ?_ (by first | (dsimp only; omega) | (simp; omega) | (simp; done) | (simp [size_ext_eq]; omega)) _)))) (Nat.le_refl _)).size; clear h2 hrd) | (go_at_call 62; (with_reducible refine (HX.out _ (by first | omega | (simp; omega)) (Hrd.out.kp (by repeat (first | (with_reducible exact Kp.refl _) | (with_reducible assumption) | (with_reducible apply Kp.ext) | (with_reducible apply Kp.alloc) | (with_reducible apply Kp.drew) | (with_reducible apply Kp.drewN) | (with_reducible refine Kp.setCell ?_ (by first | (dsimp only; omega) | (simp; omega) | (simp; done) | (simp [size_ext_eq]; omega)) _))))).mono ?_); rintro e w2 h3; obtain ⟨v', rfl, hrd2, hk2, hpb⟩ := h3.yes; have Hpb := Lib.hid hpb; have Hrd2 := Lib.hid hrd2; clear h3 hrd2 hpb))
    refine bodyPost_ret (v := .tuple #[.iface 97 v', .int .i64 si, .nilIface]) (by simp [results, Tryz.results40, go_sem]) rfl ?_
    exact .mk1 (Hrd2.out.rd.kp' (by repeat (first | (with_reducible exact Kp.refl _) | (with_reducible assumption) | (with_reducible apply Kp.ext) | (with_reducible apply Kp.alloc) | (with_reducible apply Kp.drew) | (with_reducible apply Kp.drewN) | (with_reducible refine Kp.setCell ?_ (by first | (dsimp only; omega) | (simp; omega) | (simp; done) | (simp [size_ext_eq]; omega)) _)))) (((hk.trans ((Kx.of_kp (by repeat (first | (with_reducible exact Kp.refl _) | (with_reducible assumption) | (with_reducible apply Kp.ext) | (with_reducible apply Kp.alloc) | (with_reducible apply Kp.drew) | (with_reducible apply Kp.drewN) | (with_reducible refine Kp.setCell ?_ (by first | (dsimp only; omega) | (simp; omega) | (simp; done) | (simp [size_ext_eq]; omega)) _)))).trans hk2)).trans (Kx.of_kp (by repeat (first | (with_reducible exact Kp.refl _) | (with_reducible assumption) | (with_reducible apply Kp.ext) | (with_reducible apply Kp.alloc) | (with_reducible apply Kp.drew) | (with_reducible apply Kp.drewN) | (with_reducible refine Kp.setCell ?_ (by first | (dsimp only; omega) | (simp; omega) | (simp; done) | (simp [size_ext_eq]; omega)) _))))).drop (show Kp w _ from (by repeat (first | (with_reducible exact Kp.refl _) | (with_reducible assumption) | (with_reducible apply Kp.ext) | (with_reducible apply Kp.alloc) | (with_reducible apply Kp.drew) | (with_reducible apply Kp.drewN) | (with_reducible refine Kp.setCell ?_ (by first | (dsimp only; omega) | (simp; omega) | (simp; done) | (simp [size_ext_eq]; omega)) _)))) (Nat.le_refl _)) ⟨v', rfl, HG.out _ _ _ (by repeat (first | (with_reducible exact Kp.refl _) | (with_reducible assumption) | (with_reducible apply Kp.ext) | (with_reducible apply Kp.alloc) | (with_reducible apply Kp.drew) | (with_reducible apply Kp.drewN) | (with_reducible refine Kp.setCell ?_ (by first | (dsimp only; omega) | (simp; omega) | (simp; done) | (simp [size_ext_eq]; omega)) _))) Hpb.out⟩

set_option maxRecDepth 20000 in
set_option maxHeartbeats 1000000 in
theorem dec_Polygon (b : Bool) (w0 w : World) (gD gR si : Nat) (big : Bool) (bs r r2 : List Nat) (h : Rdr w0 w gR bs) (hd : w.cell? ⟨gD, 0, none⟩ = some (rdrV gR)) (hgD : gD < w.heap.size) (hne : gD ≠ gR) (G : World → Value → Prop)
    (hH : ∀ w', RdW w0 w' gR w.heap.size bs → Calls Tryz.prog 58 #[rdrV gR, .slice (some ⟨w.heap.size, 0, none⟩) 8 8] w' (RetHd true w0 gR w.heap.size 3 si big r2 w'))
    (hG : ∀ w' w2 v, Kp w' w2 → G w' v → G w2 v)
    (hX : ∀ w', w.heap.size ≤ w'.heap.size → RdW w0 w' gR w.heap.size r2 → Calls Tryz.prog 63 #[rdrV gR, .int .i64 (ordI big), .slice (some ⟨w.heap.size, 0, none⟩) 8 8] w' (RetRd b w0 gR w.heap.size r w' G (.slice none 0 0))) :
    Calls Tryz.prog 40 #[.pointer (some ⟨gD, 0, none⟩)] w (RetDc b w0 gR r w (fun w2 v => ∃ u, v = .iface 93 u ∧ G w2 u) (si : Int)) := by
  have HH := Lib.hid hH
  have HX := Lib.hid hX
  have H0 := Lib.hid (RdW.new h)
  have HG := Lib.hid hG
  have hn2 : gD ∉ [gR, w.heap.size] := by simp; omega
  unfold rdrV at hd HH HX
  clear hH h hX hG
  cases b
  · go_enter Tryz.func40, Tryz.ntmps40
    go_wp2_with (first | (go_at_call 58; (with_reducible refine (HH.out _ (H0.out.kp (by repeat (first | (with_reducible exact Kp.refl _) | (with_reducible assumption) | (with_reducible apply Kp.ext) | (with_reducible apply Kp.alloc) | (with_reducible apply Kp.drew) | (with_reducible apply Kp.drewN) | (with_reducible refine Kp.setCell ?_ (by first | (dsimp only; omega) | (simp; omega) | (simp; done) | (simp [size_ext_eq]; omega)) _))))).mono ?_); rintro e w1 h2; obtain ⟨rfl, hrd, hk⟩ := h2.yes; have Hrd := Lib.hid hrd; have hd1 := (hk.cell (o := 0) (by simp; omega) hn2).trans (Kp.cell (show Kp w _ from (by repeat (first | (with_reducible exact Kp.refl _) | (with_reducible assumption) | (with_reducible apply Kp.ext) | (with_reducible apply Kp.alloc) | (with_reducible apply Kp.drew) | (with_reducible apply Kp.drewN) | (with_reducible refine Kp.setCell ?_ (by first | (dsimp only; omega) | (simp; omega) | (simp; done) | (simp [size_ext_eq]; omega)) _)))) hd hgD); have hl1 := Nat.lt_of_lt_of_le hgD (hk.drop (show Kp w _ from (by repeat (first | (with_reducible exact Kp.refl _) | (with_reducible assumption) | (with_reducible apply Kp.ext) | (with_reducible apply Kp.alloc) | (with_reducible apply Kp.drew) | (with_reducible apply Kp.drewN) | (with_reducible refine Kp.setCell ?_ (by first | (dsimp only; omega) | (simp; omega) | (simp; done) | (simp [size_ext_eq]; omega)) _)))) (Nat.le_refl _)).size; have hl2 := (hk.drop (show Kp w _ from (by repeat (first | (with_reducible exact Kp.refl _) | (with_reducible assumption) | (with_reducible apply Kp.ext) | (with_reducible apply Kp.alloc) | (with_reducible apply Kp.drew) | (with_reducible apply Kp.drewN) | (with_reducible refine Kp.setCell ?_ (by first | (dsimp only; omega) | (simp; omega) | (simp; done) | (simp [size_ext_eq]; omega)) _)))) (Nat.le_refl _)).size; clear h2 hrd) | (go_at_call 63; (with_reducible refine (HX.out _ (by first | omega | (simp; omega)) (Hrd.out.kp (by repeat (first | (with_reducible exact Kp.refl _) | (with_reducible assumption) | (with_reducible apply Kp.ext) | (with_reducible apply Kp.alloc) | (with_reducible apply Kp.drew) | (with_reducible apply Kp.drewN) | (with_reducible refine Kp.setCell ?_ (by first | (dsimp only; omega) | (simp; omega) | (simp; done) | (simp [size_ext_eq]; omega)) _))))).mono ?_); rintro e w2 h3; obtain ⟨a, hea, rfl, hk2, hk0⟩ := h3.no; have HE := Lib.hid hea; clear h3 hea))
    refine bodyPost_ret (v := .tuple #[.nilIface, .int .i64 0, .iface 191 (.pointer (some a))]) (by simp [results, Tryz.results40, go_sem]) rfl ?_
    exact .mk0 (HE.out.kp (by repeat (first | (with_reducible exact Kp.refl _) | (with_reducible assumption) | (with_reducible apply Kp.ext) | (with_reducible apply Kp.alloc) | (with_reducible apply Kp.drew) | (with_reducible apply Kp.drewN) | (with_reducible refine Kp.setCell ?_ (by first | (dsimp only; omega) | (simp; omega) | (simp; done) | (simp [size_ext_eq]; omega)) _)))) (((hk.trans ((Kx.of_kp (by repeat (first | (with_reducible exact Kp.refl _) | (with_reducible assumption) | (with_reducible apply Kp.ext) | (with_reducible apply Kp.alloc) | (with_reducible apply Kp.drew) | (with_reducible apply Kp.drewN) | (with_reducible refine Kp.setCell ?_ (by first | (dsimp only; omega) | (simp; omega) | (simp; done) | (simp [size_ext_eq]; omega)) _)))).trans hk2)).trans (Kx.of_kp (by repeat (first | (with_reducible exact Kp.refl _) | (with_reducible assumption) | (with_reducible apply Kp.ext) | (with_reducible apply Kp.alloc) | (with_reducible apply Kp.drew) | (with_reducible apply Kp.drewN) | (with_reducible refine Kp.setCell ?_ (by first | (dsimp only; omega) | (simp; omega) | (simp; done) | (simp [size_ext_eq]; omega)) _))))).drop (show Kp w _ from (by repeat (first | (with_reducible exact Kp.refl _) | (with_reducible assumption) | (with_reducible apply Kp.ext) | (with_reducible apply Kp.alloc) | (with_reducible apply Kp.drew) | (with_reducible apply Kp.drewN) | (with_reducible refine Kp.setCell ?_ (by first | (dsimp only; omega) | (simp; omega) | (simp; done) | (simp [size_ext_eq]; omega)) _)))) (Nat.le_refl _)) (hk0.trans (by repeat (first | (with_reducible exact Kp.refl _) | (with_reducible assumption) | (with_reducible apply Kp.ext) | (with_reducible apply Kp.alloc) | (with_reducible apply Kp.drew) | (with_reducible apply Kp.drewN) | (with_reducible refine Kp.setCell ?_ (by first | (dsimp only; omega) | (simp; omega) | (simp; done) | (simp [size_ext_eq]; omega)) _))))
  · go_enter Tryz.func40, Tryz.ntmps40
    go_wp2_with (first | (go_at_call 58; (with_reducible refine (HH.out _ (H0.out.kp (by repeat (first | (with_reducible exact Kp.refl _) | (with_reducible assumption) | (with_reducible apply Kp.ext) | (with_reducible apply Kp.alloc) | (with_reducible apply Kp.drew) | (with_reducible apply Kp.drewN) | (with_reducible refine Kp.setCell ?_ (by first | (dsimp only; omega) | (simp; omega) | (simp; done) | (simp [size_ext_eq]; omega)) _))))).mono ?_); rintro e w1 h2; obtain ⟨rfl, hrd, hk⟩ := h2.yes; have Hrd := Lib.hid hrd; have hd1 := (hk.cell (o := 0) (by simp; omega) hn2).trans (Kp.cell (show Kp w _ from (by repeat (first | (with_reducible exact Kp.refl _) | (with_reducible assumption) | (with_reducible apply Kp.ext) | (with_reducible apply Kp.alloc) | (with_reducible apply Kp.drew) | (with_reducible apply Kp.drewN) | (with_reducible refine Kp.setCell ?_ (by first | (dsimp only; omega) | (simp; omega) | (simp; done) | (simp [size_ext_eq]; omega)) _)))) hd hgD); have hl1 := Nat.lt_of_lt_of_le hgD (hk.drop (show Kp w _ from (by repeat (first | (with_reducible exact Kp.refl _) | (with_reducible assumption) | (with_reducible apply Kp.ext) | (with_reducible apply Kp.alloc) | (with_reducible apply Kp.drew) | (with_reducible apply Kp.drewN) | (with_reducible refine Kp.setCell ?_ (by first | (dsimp only; omega) | (simp; omega) | (simp; done) | (simp [size_ext_eq]; omega)) _)))) (Nat.le_refl _)).size; have hl2 := (hk.drop (show Kp w _ from (by repeat (first | (with_reducible exact Kp.refl _) | (with_reducible assumption) | (with_reducible apply Kp.ext) | (with_reducible apply Kp.alloc) | (with_reducible apply Kp.drew) | (with_reducible apply Kp.drewN) | (with_reducible refine Kp.setCell ?_ (by first | (dsimp only; omega) | (simp; omega) | (simp; done) | (simp [size_ext_eq]; omega)) _)))) (Nat.le_refl _)).size; clear h2 hrd) | (go_at_call 63; (with_reducible refine (HX.out _ (by first | omega | (simp; omega)) (Hrd.out.kp (by repeat (first | (with_reducible exact Kp.refl _) | (with_reducible assumption) | (with_reducible apply Kp.ext) | (with_reducible apply Kp.alloc) | (with_reducible apply Kp.drew) | (with_reducible apply Kp.drewN) | (with_reducible refine Kp.setCell ?_ (by first | (dsimp only; omega) | (simp; omega) | (simp; done) | (simp [size_ext_eq]; omega)) _))))).mono ?_); rintro e w2 h3; obtain ⟨v', rfl, hrd2, hk2, hpb⟩ := h3.yes; have Hpb := Lib.hid hpb; have Hrd2 := Lib.hid hrd2; clear h3 hrd2 hpb))
    refine bodyPost_ret (v := .tuple #[.iface 93 v', .int .i64 si, .nilIface]) (by simp [results, Tryz.results40, go_sem]) rfl ?_
    exact .mk1 (Hrd2.out.rd.kp' (by repeat (first | (with_reducible exact Kp.refl _) | (with_reducible assumption) | (with_reducible apply Kp.ext) | (with_reducible apply Kp.alloc) | (with_reducible apply Kp.drew) | (with_reducible apply Kp.drewN) | (with_reducible refine Kp.setCell ?_ (by first | (dsimp only; omega) | (simp; omega) | (simp; done) | (simp [size_ext_eq]; omega)) _)))) (((hk.trans ((Kx.of_kp (by repeat (first | (with_reducible exact Kp.refl _) | (with_reducible assumption) | (with_reducible apply Kp.ext) | (with_reducible apply Kp.alloc) | (with_reducible apply Kp.drew) | (with_reducible apply Kp.drewN) | (with_reducible refine Kp.setCell ?_ (by first | (dsimp only; omega) | (simp; omega) | (simp; done) | (simp [size_ext_eq]; omega)) _)))).trans hk2)).trans (Kx.of_kp (by repeat (first | (with_reducible exact Kp.refl _) | (with_reducible assumption) | (with_reducible apply Kp.ext) | (with_reducible apply Kp.alloc) | (with_reducible apply Kp.drew) | (with_reducible apply Kp.drewN) | (with_reducible refine Kp.setCell ?_ (by first | (dsimp only; omega) | (simp; omega) | (simp; done) | (simp [size_ext_eq]; omega)) _))))).drop (show Kp w _ from (by repeat (first | (with_reducible exact Kp.refl _) | (with_reducible assumption) | (with_reducible apply Kp.ext) | (with_reducible apply Kp.alloc) | (with_reducible apply Kp.drew) | (with_reducible apply Kp.drewN) | (with_reducible refine Kp.setCell ?_ (by first | (dsimp only; omega) | (simp; omega) | (simp; done) | (simp [size_ext_eq]; omega)) _)))) (Nat.le_refl _)) ⟨v', rfl, HG.out _ _ _ (by repeat (first | (with_reducible exact Kp.refl _) | (with_reducible assumption) | (with_reducible apply Kp.ext) | (with_reducible apply Kp.alloc) | (with_reducible apply Kp.drew) | (with_reducible apply Kp.drewN) | (with_reducible refine Kp.setCell ?_ (by first | (dsimp only; omega) | (simp; omega) | (simp; done) | (simp [size_ext_eq]; omega)) _))) Hpb.out⟩

set_option maxRecDepth 20000 in
set_option maxHeartbeats 1000000 in
theorem dec_MultiPolygon (b : Bool) (w0 w : World) (gD gR si : Nat) (big : Bool) (bs r r2 : List Nat) (h : Rdr w0 w gR bs) (hd : w.cell? ⟨gD, 0, none⟩ = some (rdrV gR)) (hgD : gD < w.heap.size) (hne : gD ≠ gR) (G : World → Value → Prop)
    (hH : ∀ w', RdW w0 w' gR w.heap.size bs → Calls Tryz.prog 58 #[rdrV gR, .slice (some ⟨w.heap.size, 0, none⟩) 8 8] w' (RetHd true w0 gR w.heap.size 6 si big r2 w'))
    (hG : ∀ w' w2 v, Kp w' w2 → G w' v → G w2 v)
    (hX : ∀ w', w.heap.size ≤ w'.heap.size → RdW w0 w' gR w.heap.size r2 → Calls Tryz.prog 64 #[rdrV gR, .int .i64 (ordI big), .slice (some ⟨w.heap.size, 0, none⟩) 8 8] w' (RetRd b w0 gR w.heap.size r w' G (.slice none 0 0))) :
    Calls Tryz.prog 40 #[.pointer (some ⟨gD, 0, none⟩)] w (RetDc b w0 gR r w (fun w2 v => ∃ u, v = .iface 99 u ∧ G w2 u) (si : Int)) := by
  have HH := Lib.hid hH
  have HX := Lib.hid hX
  have H0 := Lib.hid (RdW.new h)
  have HG := Lib.hid hG
  have hn2 : gD ∉ [gR, w.heap.size] := by simp; omega
  unfold rdrV at hd HH HX
  clear hH h hX hG
  cases b
  · go_enter Tryz.func40, Tryz.ntmps40
    go_wp2_with (first | (go_at_call 58; (with_reducible refine (HH.out _ (H0.out.kp (by repeat (first | (with_reducible exact Kp.refl _) | (with_reducible assumption) | (with_reducible apply Kp.ext) | (with_reducible apply Kp.alloc) | (with_reducible apply Kp.drew) | (with_reducible apply Kp.drewN) | (with_reducible refine Kp.setCell ?_ (by first | (dsimp only; omega) | (simp; omega) | (simp; done) | (simp [size_ext_eq]; omega)) _))))).mono ?_); rintro e w1 h2; obtain ⟨rfl, hrd, hk⟩ := h2.yes; have Hrd := Lib.hid hrd; have hd1 := (hk.cell (o := 0) (by simp; omega) hn2).trans (Kp.cell (show Kp w _ from (by repeat (first | (with_reducible exact Kp.refl _) | (with_reducible assumption) | (with_reducible apply Kp.ext) | (with_reducible apply Kp.alloc) | (with_reducible apply Kp.drew) | (with_reducible apply Kp.drewN) | (with_reducible refine Kp.setCell ?_ (by first | (dsimp only; omega) | (simp; omega) | (simp; done) | (simp [size_ext_eq]; omega)) _)))) hd hgD); have hl1 := Nat.lt_of_lt_of_le hgD (hk.drop (show Kp w _ from (by repeat (first | (with_reducible exact Kp.refl _) | (with_reducible assumption) | (with_reducible apply Kp.ext) | (with_reducible apply Kp.alloc) | (with_reducible apply Kp.drew) | (with_reducible apply Kp.drewN) | (with_reducible refine Kp.setCell ?_ (by first | (dsimp only; omega) | (simp; omega) | (simp; done) | (simp [size_ext_eq]; omega)) _)))) (Nat.le_refl _)).size; have hl2 := (hk.drop (show Kp w _ from (by repeat (first | (with_reducible exact Kp.refl _) | (with_reducible assumption) | (with_reducible apply Kp.ext) | (with_reducible apply Kp.alloc) | (with_reducible apply Kp.drew) | (with_reducible apply Kp.drewN) | (with_reducible refine Kp.setCell ?_ (by first | (dsimp only; omega) | (simp; omega) | (simp; done) | (simp [size_ext_eq]; omega)) _)))) (Nat.le_refl _)).size; clear h2 hrd) | (go_at_call 64; (with_reducible refine (HX.out _ (by first | omega | (simp; omega)) (Hrd.out.kp (by repeat (first | (with_reducible exact Kp.refl _) | (with_reducible assumption) | (with_reducible apply Kp.ext) | (with_reducible apply Kp.alloc) | (with_reducible apply Kp.drew) | (with_reducible apply Kp.drewN) | (with_reducible refine Kp.setCell ?_ (by first | (dsimp only; omega) | (simp; omega) | (simp; done) | (simp [size_ext_eq]; omega)) _))))).mono ?_); rintro e w2 h3; obtain ⟨a, hea, rfl, hk2, hk0⟩ := h3.no; have HE := Lib.hid hea; clear h3 hea))
    refine bodyPost_ret (v := .tuple #[.nilIface, .int .i64 0, .iface 191 (.pointer (some a))]) (by simp [results, Tryz.results40, go_sem]) rfl ?_
    exact .mk0 (HE.out.kp (by repeat (first | (with_reducible exact Kp.refl _) | (with_reducible assumption) | (with_reducible apply Kp.ext) | (with_reducible apply Kp.alloc) | (with_reducible apply Kp.drew) | (with_reducible apply Kp.drewN) | (with_reducible refine Kp.setCell ?_ (by first | (dsimp only; omega) | (simp; omega) | (simp; done) | (simp [size_ext_eq]; omega)) _)))) (((hk.trans ((Kx.of_kp (by repeat (first | (with_reducible exact Kp.refl _) | (with_reducible assumption) | (with_reducible apply Kp.ext) | (with_reducible apply Kp.alloc) | (with_reducible apply Kp.drew) | (with_reducible apply Kp.drewN) | (with_reducible refine Kp.setCell ?_ (by first | (dsimp only; omega) | (simp; omega) | (simp; done) | (simp [size_ext_eq]; omega)) _)))).trans hk2)).trans (Kx.of_kp (by repeat (first | (with_reducible exact Kp.refl _) | (with_reducible assumption) | (with_reducible apply Kp.ext) | (with_reducible apply Kp.alloc) | (with_reducible apply Kp.drew) | (with_reducible apply Kp.drewN) | (with_reducible refine Kp.setCell ?_ (by first | (dsimp only; omega) | (simp; omega) | (simp; done) | (simp [size_ext_eq]; omega)) _))))).drop (show Kp w _ from (by repeat (first | (with_reducible exact Kp.refl _) | (with_reducible assumption) | (with_reducible apply Kp.ext) | (with_reducible apply Kp.alloc) | (with_reducible apply Kp.drew) | (with_reducible apply Kp.drewN) | (with_reducible refine Kp.setCell ?_ (by first | (dsimp only; omega) | (simp; omega) | (simp; done) | (simp [size_ext_eq]; omega)) _)))) (Nat.le_refl _)) (hk0.trans (by repeat (first | (with_reducible exact Kp.refl _) | (with_reducible assumption) | (with_reducible apply Kp.ext) | (with_reducible apply Kp.alloc) | (with_reducible apply Kp.drew) | (with_reducible apply Kp.drewN) | (with_reducible refine Kp.setCell ?_ (by first | (dsimp only; omega) | (simp; omega) | (simp; done) | (simp [size_ext_eq]; omega)) _))))
  · go_enter Tryz.func40, Tryz.ntmps40
    go_wp2_with (first | (go_at_call 58; (with_reducible refine (HH.out _ (H0.out.kp (by repeat (first | (with_reducible exact Kp.refl _) | (with_reducible assumption) | (with_reducible apply Kp.ext) | (with_reducible apply Kp.alloc) | (with_reducible apply Kp.drew) | (with_reducible apply Kp.drewN) | (with_reducible refine Kp.setCell ?_ (by first | (dsimp only; omega) | (simp; omega) | (simp; done) | (simp [size_ext_eq]; omega)) _))))).mono ?_); rintro e w1 h2; obtain ⟨rfl, hrd, hk⟩ := h2.yes; have Hrd := Lib.hid hrd; have hd1 := (hk.cell (o := 0) (by simp; omega) hn2).trans (Kp.cell (show Kp w _ from (by repeat (first | (with_reducible exact Kp.refl _) | (with_reducible assumption) | (with_reducible apply Kp.ext) | (with_reducible apply Kp.alloc) | (with_reducible apply Kp.drew) | (with_reducible apply Kp.drewN) | (with_reducible refine Kp.setCell ?_ (by first | (dsimp only; omega) | (simp; omega) | (simp; done) | (simp [size_ext_eq]; omega)) _)))) hd hgD); have hl1 := Nat.lt_of_lt_of_le hgD (hk.drop (show Kp w _ from (by repeat (first | (with_reducible exact Kp.refl _) | (with_reducible assumption) | (with_reducible apply Kp.ext) | (with_reducible apply Kp.alloc) | (with_reducible apply Kp.drew) | (with_reducible apply Kp.drewN) | (with_reducible refine Kp.setCell ?_ (by first | (dsimp only; omega) | (simp; omega) | (simp; done) | (simp [size_ext_eq]; omega)) _)))) (Nat.le_refl _)).size; have hl2 := (hk.drop (show Kp w _ from (by repeat (first | (with_reducible exact Kp.refl _) | (with_reducible assumption) | (with_reducible apply Kp.ext) | (with_reducible apply Kp.alloc) | (with_reducible apply Kp.drew) | (with_reducible apply Kp.drewN) | (with_reducible refine Kp.setCell ?_ (by first | (dsimp only; omega) | (simp; omega) | (simp; done) | (simp [size_ext_eq]; omega)) _)))) (Nat.le_refl _)).size; clear h2 hrd) | (go_at_call 64; (with_reducible refine (HX.out _ (by first | omega | (simp; omega)) (Hrd.out.kp (by repeat (first | (with_reducible exact Kp.refl _) | (with_reducible assumption) | (with_reducible apply Kp.ext) | (with_reducible apply Kp.alloc) | (with_reducible apply Kp.drew) | (with_reducible apply Kp.drewN) | (with_reducible refine Kp.setCell ?_ (by first | (dsimp only; omega) | (simp; omega) | (simp; done) | (simp [size_ext_eq]; omega)) _))))).mono ?_); rintro e w2 h3; obtain ⟨v', rfl, hrd2, hk2, hpb⟩ := h3.yes; have Hpb := Lib.hid hpb; have Hrd2 := Lib.hid hrd2; clear h3 hrd2 hpb))
    refine bodyPost_ret (v := .tuple #[.iface 99 v', .int .i64 si, .nilIface]) (by simp [results, Tryz.results40, go_sem]) rfl ?_
    exact .mk1 (Hrd2.out.rd.kp' (by repeat (first | (with_reducible exact Kp.refl _) | (with_reducible assumption) | (with_reducible apply Kp.ext) | (with_reducible apply Kp.alloc) | (with_reducible apply Kp.drew) | (with_reducible apply Kp.drewN) | (with_reducible refine Kp.setCell ?_ (by first | (dsimp only; omega) | (simp; omega) | (simp; done) | (simp [size_ext_eq]; omega)) _)))) (((hk.trans ((Kx.of_kp (by repeat (first | (with_reducible exact Kp.refl _) | (with_reducible assumption) | (with_reducible apply Kp.ext) | (with_reducible apply Kp.alloc) | (with_reducible apply Kp.drew) | (with_reducible apply Kp.drewN) | (with_reducible refine Kp.setCell ?_ (by first | (dsimp only; omega) | (simp; omega) | (simp; done) | (simp [size_ext_eq]; omega)) _)))).trans hk2)).trans (Kx.of_kp (by repeat (first | (with_reducible exact Kp.refl _) | (with_reducible assumption) | (with_reducible apply Kp.ext) | (with_reducible apply Kp.alloc) | (with_reducible apply Kp.drew) | (with_reducible apply Kp.drewN) | (with_reducible refine Kp.setCell ?_ (by first | (dsimp only; omega) | (simp; omega) | (simp; done) | (simp [size_ext_eq]; omega)) _))))).drop (show Kp w _ from (by repeat (first | (with_reducible exact Kp.refl _) | (with_reducible assumption) | (with_reducible apply Kp.ext) | (with_reducible apply Kp.alloc) | (with_reducible apply Kp.drew) | (with_reducible apply Kp.drewN) | (with_reducible refine Kp.setCell ?_ (by first | (dsimp only; omega) | (simp; omega) | (simp; done) | (simp [size_ext_eq]; omega)) _)))) (Nat.le_refl _)) ⟨v', rfl, HG.out _ _ _ (by repeat (first | (with_reducible exact Kp.refl _) | (with_reducible assumption) | (with_reducible apply Kp.ext) | (with_reducible apply Kp.alloc) | (with_reducible apply Kp.drew) | (with_reducible apply Kp.drewN) | (with_reducible refine Kp.setCell ?_ (by first | (dsimp only; omega) | (simp; omega) | (simp; done) | (simp [size_ext_eq]; omega)) _))) Hpb.out⟩

set_option maxRecDepth 20000 in
set_option maxHeartbeats 1000000 in
theorem dec_Collection (b : Bool) (w0 w : World) (gD gR si : Nat) (big : Bool) (bs r r2 : List Nat) (h : Rdr w0 w gR bs) (hd : w.cell? ⟨gD, 0, none⟩ = some (rdrV gR)) (hgD : gD < w.heap.size) (hne : gD ≠ gR) (G : World → Value → Prop)
    (hH : ∀ w', RdW w0 w' gR w.heap.size bs → Calls Tryz.prog 58 #[rdrV gR, .slice (some ⟨w.heap.size, 0, none⟩) 8 8] w' (RetHd true w0 gR w.heap.size 7 si big r2 w'))
    (hG : ∀ w' w2 v, Kp w' w2 → G w' v → G w2 v)
    (hX : ∀ w', w.heap.size ≤ w'.heap.size → RdW w0 w' gR w.heap.size r2 → Calls Tryz.prog 65 #[rdrV gR, .int .i64 (ordI big), .slice (some ⟨w.heap.size, 0, none⟩) 8 8] w' (RetRd b w0 gR w.heap.size r w' G (.slice none 0 0))) :
    Calls Tryz.prog 40 #[.pointer (some ⟨gD, 0, none⟩)] w (RetDc b w0 gR r w (fun w2 v => ∃ u, v = .iface 101 u ∧ G w2 u) (si : Int)) := by
  have HH := Lib.hid hH
  have HX := Lib.hid hX
  have H0 := Lib.hid (RdW.new h)
  have HG := Lib.hid hG
  have hn2 : gD ∉ [gR, w.heap.size] := by simp; omega
  unfold rdrV at hd HH HX
  clear hH h hX hG
  cases b
  · go_enter Tryz.func40, Tryz.ntmps40
    go_wp2_with (first | (go_at_call 58; (with_reducible refine (HH.out _ (H0.out.kp (by repeat (first | (with_reducible exact Kp.refl _) | (with_reducible assumption) | (with_reducible apply Kp.ext) | (with_reducible apply Kp.alloc) | (with_reducible apply Kp.drew) | (with_reducible apply Kp.drewN) | (with_reducible refine Kp.setCell ?_ (by first | (dsimp only; omega) | (simp; omega) | (simp; done) | (simp [size_ext_eq]; omega)) _))))).mono ?_); rintro e w1 h2; obtain ⟨rfl, hrd, hk⟩ := h2.yes; have Hrd := Lib.hid hrd; have hd1 := (hk.cell (o := 0) (by simp; omega) hn2).trans (Kp.cell (show Kp w _ from (by repeat (first | (with_reducible exact Kp.refl _) | (with_reducible assumption) | (with_reducible apply Kp.ext) | (with_reducible apply Kp.alloc) | (with_reducible apply Kp.drew) | (with_reducible apply Kp.drewN) | (with_reducible refine Kp.setCell ?_ (by first | (dsimp only; omega) | (simp; omega) | (simp; done) | (simp [size_ext_eq]; omega)) _)))) hd hgD); have hl1 := Nat.lt_of_lt_of_le hgD (hk.drop (show Kp w _ from (by repeat (first | (with_reducible exact Kp.refl _) | (with_reducible assumption) | (with_reducible apply Kp.ext) | (with_reducible apply Kp.alloc) | (with_reducible apply Kp.drew) | (with_reducible apply Kp.drewN) | (with_reducible refine Kp.setCell ?_ (by first | (dsimp only; omega) | (simp; omega) | (simp; done) | (simp [size_ext_eq]; omega)) _)))) (Nat.le_refl _)).size; have hl2 := (hk.drop (show Kp w _ from (by repeat (first | (with_reducible exact Kp.refl _) | (with_reducible assumption) | (with_reducible apply Kp.ext) | (with_reducible apply Kp.alloc) | (with_reducible apply Kp.drew) | (with_reducible apply Kp.drewN) | (with_reducible refine Kp.setCell ?_ (by first | (dsimp only; omega) | (simp; omega) | (simp; done) | (simp [size_ext_eq]; omega)) _)))) (Nat.le_refl _)).size; clear h2 hrd) | (go_at_call 65; (with_reducible refine (HX.out _ (by first | omega | (simp; omega)) (Hrd.out.kp (by repeat (first | (with_reducible exact Kp.refl _) | (with_reducible assumption) | (with_reducible apply Kp.ext) | (with_reducible apply Kp.alloc) | (with_reducible apply Kp.drew) | (with_reducible apply Kp.drewN) | (with_reducible refine Kp.setCell ?_ (by first | (dsimp only; omega) | (simp; omega) | (simp; done) | (simp [size_ext_eq]; omega)) _))))).mono ?_); rintro e w2 h3; obtain ⟨a, hea, rfl, hk2, hk0⟩ := h3.no; have HE := Lib.hid hea; clear h3 hea))
    refine bodyPost_ret (v := .tuple #[.nilIface, .int .i64 0, .iface 191 (.pointer (some a))]) (by simp [results, Tryz.results40, go_sem]) rfl ?_
    exact .mk0 (HE.out.kp (by repeat (first | (with_reducible exact Kp.refl _) | (with_reducible assumption) | (with_reducible apply Kp.ext) | (with_reducible apply Kp.alloc) | (with_reducible apply Kp.drew) | (with_reducible apply Kp.drewN) | (with_reducible refine Kp.setCell ?_ (by first | (dsimp only; omega) | (simp; omega) | (simp; done) | (simp [size_ext_eq]; omega)) _)))) (((hk.trans ((Kx.of_kp (by repeat (first | (with_reducible exact Kp.refl _) | (with_reducible assumption) | (with_reducible apply Kp.ext) | (with_reducible apply Kp.alloc) | (with_reducible apply Kp.drew) | (with_reducible apply Kp.drewN) | (with_reducible refine Kp.setCell ?_ (by first | (dsimp only; omega) | (simp; omega) | (simp; done) | (simp [size_ext_eq]; omega)) _)))).trans hk2)).trans (Kx.of_kp (by repeat (first | (with_reducible exact Kp.refl _) | (with_reducible assumption) | (with_reducible apply Kp.ext) | (with_reducible apply Kp.alloc) | (with_reducible apply Kp.drew) | (with_reducible apply Kp.drewN) | (with_reducible refine Kp.setCell ?_ (by first | (dsimp only; omega) | (simp; omega) | (simp; done) | (simp [size_ext_eq]; omega)) _))))).drop (show Kp w _ from (by repeat (first | (with_reducible exact Kp.refl _) | (with_reducible assumption) | (with_reducible apply Kp.ext) | (with_reducible apply Kp.alloc) | (with_reducible apply Kp.drew) | (with_reducible apply Kp.drewN) | (with_reducible refine Kp.setCell ?_ (by first | (dsimp only; omega) | (simp; omega) | (simp; done) | (simp [size_ext_eq]; omega)) _)))) (Nat.le_refl _)) (hk0.trans (by repeat (first | (with_reducible exact Kp.refl _) | (with_reducible assumption) | (with_reducible apply Kp.ext) | (with_reducible apply Kp.alloc) | (with_reducible apply Kp.drew) | (with_reducible apply Kp.drewN) | (with_reducible refine Kp.setCell ?_ (by first | (dsimp only; omega) | (simp; omega) | (simp; done) | (simp [size_ext_eq]; omega)) _))))
  · go_enter Tryz.func40, Tryz.ntmps40
    go_wp2_with (first | (go_at_call 58; (with_reducible refine (HH.out _ (H0.out.kp (by repeat (first | (with_reducible exact Kp.refl _) | (with_reducible assumption) | (with_reducible apply Kp.ext) | (with_reducible apply Kp.alloc) | (with_reducible apply Kp.drew) | (with_reducible apply Kp.drewN) | (with_reducible refine Kp.setCell ?_ (by first | (dsimp only; omega) | (simp; omega) | (simp; done) | (simp [size_ext_eq]; omega)) _))))).mono ?_); rintro e w1 h2; obtain ⟨rfl, hrd, hk⟩ := h2.yes; have Hrd := Lib.hid hrd; have hd1 := (hk.cell (o := 0) (by simp; omega) hn2).trans (Kp.cell (show Kp w _ from (by repeat (first | (with_reducible exact Kp.refl _) | (with_reducible assumption) | (with_reducible apply Kp.ext) | (with_reducible apply Kp.alloc) | (with_reducible apply Kp.drew) | (with_reducible apply Kp.drewN) | (with_reducible refine Kp.setCell ?_ (by first | (dsimp only; omega) | (simp; omega) | (simp; done) | (simp [size_ext_eq]; omega)) _)))) hd hgD); have hl1 := Nat.lt_of_lt_of_le hgD (hk.drop (show Kp w _ from (by repeat (first | (with_reducible exact Kp.refl _) | (with_reducible assumption) | (with_reducible apply Kp.ext) | (with_reducible apply Kp.alloc) | (with_reducible apply Kp.drew) | (with_reducible apply Kp.drewN) | (with_reducible refine Kp.setCell ?_ (by first | (dsimp only; omega) | (simp; omega) | (simp; done) | (simp [size_ext_eq]; omega)) _)))) (Nat.le_refl _)).size; have hl2 := (hk.drop (show Kp w _ from (by repeat (first | (with_reducible exact Kp.refl _) | (with_reducible assumption) | (with_reducible apply Kp.ext) | (with_reducible apply Kp.alloc) | (with_reducible apply Kp.drew) | (with_reducible apply Kp.drewN) | (with_reducible refine Kp.setCell ?_ (by first | (dsimp only; omega) | (simp; omega) | (simp; done) | (simp [size_ext_eq]; omega)) _)))) (Nat.le_refl _)).size; clear h2 hrd) | (go_at_call 65; (with_reducible refine (HX.out _ (by first | omega | (simp; omega)) (Hrd.out.kp (by repeat (first | (with_reducible exact Kp.refl _) | (with_reducible assumption) | (with_reducible apply Kp.ext) | (with_reducible apply Kp.alloc) | (with_reducible apply Kp.drew) | (with_reducible apply Kp.drewN) | (with_reducible refine Kp.setCell ?_ (by first | (dsimp only; omega) | (simp; omega) | (simp; done) | (simp [size_ext_eq]; omega)) _))))).mono ?_); rintro e w2 h3; obtain ⟨v', rfl, hrd2, hk2, hpb⟩ := h3.yes; have Hpb := Lib.hid hpb; have Hrd2 := Lib.hid hrd2; clear h3 hrd2 hpb))
    refine bodyPost_ret (v := .tuple #[.iface 101 v', .int .i64 si, .nilIface]) (by simp [results, Tryz.results40, go_sem]) rfl ?_
    exact .mk1 (Hrd2.out.rd.kp' (by repeat (first | (with_reducible exact Kp.refl _) | (with_reducible assumption) | (with_reducible apply Kp.ext) | (with_reducible apply Kp.alloc) | (with_reducible apply Kp.drew) | (with_reducible apply Kp.drewN) | (with_reducible refine Kp.setCell ?_ (by first | (dsimp only; omega) | (simp; omega) | (simp; done) | (simp [size_ext_eq]; omega)) _)))) (((hk.trans ((Kx.of_kp (by repeat (first | (with_reducible exact Kp.refl _) | (with_reducible assumption) | (with_reducible apply Kp.ext) | (with_reducible apply Kp.alloc) | (with_reducible apply Kp.drew) | (with_reducible apply Kp.drewN) | (with_reducible refine Kp.setCell ?_ (by first | (dsimp only; omega) | (simp; omega) | (simp; done) | (simp [size_ext_eq]; omega)) _)))).trans hk2)).trans (Kx.of_kp (by repeat (first | (with_reducible exact Kp.refl _) | (with_reducible assumption) | (with_reducible apply Kp.ext) | (with_reducible apply Kp.alloc) | (with_reducible apply Kp.drew) | (with_reducible apply Kp.drewN) | (with_reducible refine Kp.setCell ?_ (by first | (dsimp only; omega) | (simp; omega) | (simp; done) | (simp [size_ext_eq]; omega)) _))))).drop (show Kp w _ from (by repeat (first | (with_reducible exact Kp.refl _) | (with_reducible assumption) | (with_reducible apply Kp.ext) | (with_reducible apply Kp.alloc) | (with_reducible apply Kp.drew) | (with_reducible apply Kp.drewN) | (with_reducible refine Kp.setCell ?_ (by first | (dsimp only; omega) | (simp; omega) | (simp; done) | (simp [size_ext_eq]; omega)) _)))) (Nat.le_refl _)) ⟨v', rfl, HG.out _ _ _ (by repeat (first | (with_reducible exact Kp.refl _) | (with_reducible assumption) | (with_reducible apply Kp.ext) | (with_reducible apply Kp.alloc) | (with_reducible apply Kp.drew) | (with_reducible apply Kp.drewN) | (with_reducible refine Kp.setCell ?_ (by first | (dsimp only; omega) | (simp; omega) | (simp; done) | (simp [size_ext_eq]; omega)) _))) Hpb.out⟩
end Go.Proofs.YtobdohhabgnjiaaGreatDoor

set_option linter.all false
namespace Go.Proofs.YtobdohhabgnjiaaGreatDoor
open PubFl Go.RowKit

attribute [local go_sem] cell_ext frozen_ext ext_setCell cell_store size_ext_eq lt_p0 lt_p1 lt_p2 lt_p3 lt_p4 lt_p5 lt_p6 lt_p7 lt_p8 lt_p9 lt_p10 lt_p11 lt_p12 lt_p13 lt_p14 lt_p15 lt_p16 lt_p17 lt_p18 lt_p19 lt_p20 lt_p21 lt_p22 lt_p23 lt_p24 lt_p25 lt_p26 lt_p27 lt_p28 lt_p29 lt_p30 lt_p31 lt_p32 lt_q1 lt_q2 lt_q3 lt_q4 lt_q5 lt_q6 lt_q7 lt_q8 lt_q9 lt_q10 lt_q11 lt_q12 lt_q13 lt_q14 lt_q15 lt_q16 lt_q17 lt_q18 lt_q19 lt_q20 lt_q21 lt_q22 lt_q23 lt_q24 lt_q25 lt_q26 lt_q27 lt_q28 lt_q29 lt_q30 lt_q31 lt_q32 run_fop run_store_float
attribute [local go_sem high] cmp_eql cmp_neq cmp_lss cmp_leq cmp_gtr cmp_geq

theorem infoGmR : (Tryz.prog.info? 52).map (fun i => (i.zero, i.size, i.bytes)) = some (some .nilIface, 1, 16) := by kernel_rfl
def ColE (d : Nat) (qs : List Sh) (i l h : Nat) (w : World) (x : Value) : Prop := GeoB d l h w x (qs.getD i dsh)
theorem keep_col (d : Nat) (qs : List Sh) : KeepE (ColE d qs) := fun _ _ _ _ _ _ a hs e => GeoB.keep e a hs
/-- a new decoder -/
def NewDec (v : Value) (w : World) (e : Ending) (w' : World) : Prop := e = .returned (.pointer (some ⟨w.heap.size, 0, none⟩)) ∧ w' = w.alloc (.cells #[v] 142)
theorem newDec_c (t : TypeId) (u : Value) (w : World) : Calls Tryz.prog 39 #[.iface t u] w (NewDec (.iface t u) w) := by
  go_enter Tryz.func39, Tryz.ntmps39
  go_wp2_with fail
  go_ret
  exact ⟨rfl, rfl⟩
theorem RowsP.kp' {E : Nat → Nat → Nat → World → Value → Prop} (hE : KeepE E) {T : TypeId} {L : Nat} {w w' : World} {rv : Value} {k : Nat} {xs : List Value} (h : RowsP E T L w rv k xs) (hk : Kp w w') : RowsP E T L w' rv k xs :=
  ⟨own_kp h.own hk, h.nn, fun i hi => by
    obtain ⟨x, lo, hi', h1, h2, h3, h4, h5⟩ := h.el i hi
    exact ⟨x, lo, hi', h1, hE i lo hi' w w' x (Agree.of_kp hk h4) hk.size h2, h3, Nat.le_trans h4 hk.size, h5⟩⟩
/-- the loop of readCollection -/
def LoopK (b : Bool) (w0 : World) (gR gb N D d : Nat) (qs : List Sh) (f : Nat → List Nat) (r : List Nat) (w : World) (s11 s13 : Value) (wr : World) : Prop :=
  ∃ (k : Nat) (rest : List Nat) (xs : List Value), k ≤ N ∧ s13 = .int .i64 (k : Int) ∧ RdW w0 wr gR gb rest ∧ Kx [gR, gb] w wr ∧ wr.cell? ⟨D, 0, none⟩ = some (rdrV gR) ∧ D < wr.heap.size ∧ RowsP (ColE d qs) 52 w.heap.size wr s11 k xs ∧ (∀ g, s11.ownBlock = some g → g ≠ D) ∧ PreB b (sufB f k (N - k)) r rest

set_option maxRecDepth 20000 in
set_option maxHeartbeats 4000000 in
theorem readCol_c (b : Bool) (w0 w : World) (gR gb c d : Nat) (ls : List Sh) (hn : ls.length ≤ 40) (big : Bool) (f : Nat → List Nat) (r bs : List Nat) (hP : PreB b (num32 ls.length big ++ sufB f 0 ls.length) r bs) (h : RdW w0 w gR gb bs) (hc : 8 ≤ c) (hG : Gls w0)
    (HS : ∀ k, k < ls.length → ∀ (b' : Bool) (r' bs' : List Nat) (w' : World) (gD : Nat), PreB b' (f k) r' bs' → Rdr w0 w' gR bs' → w'.cell? ⟨gD, 0, none⟩ = some (rdrV gR) → gD < w'.heap.size → gD ≠ gR → Calls Tryz.prog 40 #[.pointer (some ⟨gD, 0, none⟩)] w' (RetDc b' w0 gR r' w' (fun w2 v => GeoB d w'.heap.size w2.heap.size w2 v (ls.getD k dsh)) 0)) :
    Calls Tryz.prog 65 #[rdrV gR, .int .i64 (ordI big), .slice (some ⟨gb, 0, none⟩) 8 c] w (RetRd b w0 gR gb r w (fun w' v => RowB (ColE d ls) w.heap.size w'.heap.size w' v ls.length) (.slice none 0 0)) := by
  obtain ⟨i0, hi, hz0, hz1, hz2⟩ := info_parts infoGmR
  have HU := Lib.hid (fun b' r' bs' w' (hP : PreB b' (num32 ls.length big) r' bs') (h : RdW w0 w' gR gb bs') => readU32_c b' w0 w' gR gb ls.length c big r' bs' hP h (by omega) (by omega) hG)
  have hmk : ∀ w, (Instr.makeSlice 101 (.int .i64 0) (.int .u32 (ls.length : Int))).run Tryz.prog w = .ok (.slice (some ⟨w.heap.size, 0, none⟩) 0 ls.length) (w.alloc (.cells (madeCells #[.nilIface] (ls.length * 1)) 52)) := fun w => by
    have := run_make (P := Tryz.prog) w 101 52 i0 .nilIface Tryz.underlying101 hi hz0 .i64 .u32 0 (ls.length : Int) (by omega) (by omega) (by rw [hz2]; omega) (by omega)
    rw [this, hz1]
    rfl
  have k6 : ((100 : Int) < (ls.length : Int)) = False := eq_false (by omega)
  have k7 : (4 : Int) ≤ (c : Int) := by omega
  have Hs := Lib.hid h.gR_lt
  have H0 := Lib.hid h
  have hst := hP.step
  have HQ := Lib.hid HS
  obtain ⟨N, hN⟩ : ∃ N, ls.length = N := ⟨_, rfl⟩
  rw [hN] at hn HU hmk k6 hst
  have HN := Lib.hid hN
  generalize hO : ordI big = o at *
  have hRV : Hid (rdrV gR = .iface 68 (.pointer (some ⟨gR, 0, none⟩))) := Lib.hid rfl
  have hgRw : gR < w.heap.size := h.rd.lt
  have hgbw : gb < w.heap.size := h.bf.lt
  rw [hRV.out] at HU ⊢
  clear hP h hN hO HS
  rcases hst with ⟨r2, rfl, hP2⟩ | ⟨rfl, hcut, _⟩
  rotate_left 1
  · have HX := Lib.hid (HU.out false [] _ w hcut H0.out)
    go_enter Tryz.func65, Tryz.ntmps65
    go_wp2_with (go_at_call 77; (with_reducible refine (HX.out).mono ?_); rintro e w1 h2; obtain ⟨a, hea, rfl, hk, hk0⟩ := h2.no; have HE := Lib.hid hea; clear h2 hea)
    refine bodyPost_ret (v := .tuple #[.slice none 0 0, .iface 191 (.pointer (some a))]) (by simp [results, Tryz.results65, go_sem]) rfl ?_
    exact .mk0 HE.out hk hk0
  have HX := Lib.hid (HU.out true _ _ w (PreB.of (num32 N big) r2) H0.out)
  have HP2 := Lib.hid hP2
  clear hP2
  go_enter Tryz.func65, Tryz.ntmps65
  go_wp2_with (first | (go_at_call 77; (with_reducible refine (HX.out).mono ?_); rintro e w1 h2; obtain ⟨v, rfl, hrd1, hk1, rfl⟩ := h2.yes; have Hrd1 := Lib.hid hrd1; clear h2 hrd1) | (go_at_call 39; (with_reducible refine (newDec_c _ _ _).mono ?_); rintro e w2 ⟨rfl, rfl⟩))
  have hk1w := Nat.lt_of_lt_of_le hgRw hk1.size
  go_loopw [11, 13] (fun s11 s13 wr => LoopK b w0 gR gb N (w1.heap.size + 1) d ls f r w s11 s13 wr) (fun _ s13 _ => N - (intOf s13).toNat)
  case atStart =>
    have hrow : RowsP (ColE d ls) 52 w.heap.size (w1.alloc (.cells (madeCells #[.nilIface] (N * 1)) 52)) (.slice (some ⟨w1.heap.size, 0, none⟩) 0 N) 0 [] := ⟨World.ownsRow_made (base := w.heap.size) (e := 52) (size := 1) w1 (madeCells #[.nilIface] (N * 1)) N hk1.size (by unfold maxLen; omega) (by simp [size_madeCells]), ⟨_, rfl⟩, fun i hi => by omega⟩
    refine ⟨0, r2, [], Nat.zero_le _, rfl, Hrd1.out.kp (by repeat (first | (with_reducible exact Kp.refl _) | (with_reducible assumption) | (with_reducible apply Kp.ext) | (with_reducible apply Kp.alloc) | (with_reducible apply Kp.drew) | (with_reducible apply Kp.drewN) | (with_reducible refine Kp.setCell ?_ (by first | (dsimp only; omega) | (simp; omega) | (simp; done) | (simp [size_ext_eq]; omega)) _))), hk1.trans (Kx.of_kp (by repeat (first | (with_reducible exact Kp.refl _) | (with_reducible assumption) | (with_reducible apply Kp.ext) | (with_reducible apply Kp.alloc) | (with_reducible apply Kp.drew) | (with_reducible apply Kp.drewN) | (with_reducible refine Kp.setCell ?_ (by first | (dsimp only; omega) | (simp; omega) | (simp; done) | (simp [size_ext_eq]; omega)) _)))), ?_, ?_, ?_, ?_, HP2.out⟩
    · rw [hRV.out]; exact (by simp [go_sem])
    · simp
    · have hrow2 := RowsP.kp' (keep_col d ls) hrow ((Kp.refl _).alloc (.cells #[.iface 68 (.pointer (some ⟨gR, 0, none⟩))] 142))
      simpa using hrow2
    · intro g hg; simp [Value.ownBlock] at hg; omega
  case round =>
    obtain ⟨k, rest, xs, hkn, rfl, hrd, hkx, hcd, hld, hrow, hnd, hpre⟩ := hrel
    by_cases hlt : k < N
    · have hlt' : k < ls.length := by rw [HN.out]; exact hlt
      rw [show N - k = (N - (k + 1)) + 1 by omega] at hpre
      replace hpre : PreB b (f k ++ sufB f (k + 1) (N - (k + 1))) r rest := hpre
      have hk1 : (k : Int) < (N : Int) := by omega
      have hk3 : (k : Int) ≤ 300 := by omega
      have Hrow := Lib.hid hrow
      have Hown := Lib.hid hrow.own
      have Hkx := Lib.hid hkx
      have hsz := hkx.size
      have hDR : w1.heap.size + 1 ≠ gR := by have := hk1w; omega
      have Hcd := Lib.hid hcd
      have Hnd := Lib.hid hnd
      clear hrow hkx hnd
      rcases hpre.step with ⟨r4, rfl, hpre4⟩ | ⟨rfl, hcut, _⟩
      rotate_left 1
      · have HX := Lib.hid (HQ.out k hlt' false [] rest wr (w1.heap.size + 1) hcut hrd.rd hcd hld hDR)
        clear hpre hcut hrd hcd
        go_wp2_with (go_at_call 40; (with_reducible refine (HX.out).mono ?_); rintro e w2 h2; obtain ⟨a, hea, rfl, hk2, hk0⟩ := h2.no; have HE := Lib.hid hea; clear h2 hea)
        refine bodyPost_ret (v := .tuple #[.slice none 0 0, .iface 191 (.pointer (some a))]) (by simp [results, Tryz.results65, go_sem]) rfl ?_
        exact .mk0 (HE.out.kp (by repeat (first | (with_reducible exact Kp.refl _) | (with_reducible assumption) | (with_reducible apply Kp.ext) | (with_reducible apply Kp.alloc) | (with_reducible apply Kp.drew) | (with_reducible apply Kp.drewN) | (with_reducible refine Kp.setCell ?_ (by first | (dsimp only; omega) | (simp; omega) | (simp; done) | (simp [size_ext_eq]; omega)) _)))) (Hkx.out.trans ((hk2.mono (by simp)).trans (Kx.of_kp (by repeat (first | (with_reducible exact Kp.refl _) | (with_reducible assumption) | (with_reducible apply Kp.ext) | (with_reducible apply Kp.alloc) | (with_reducible apply Kp.drew) | (with_reducible apply Kp.drewN) | (with_reducible refine Kp.setCell ?_ (by first | (dsimp only; omega) | (simp; omega) | (simp; done) | (simp [size_ext_eq]; omega)) _)))))) (hk0.trans (by repeat (first | (with_reducible exact Kp.refl _) | (with_reducible assumption) | (with_reducible apply Kp.ext) | (with_reducible apply Kp.alloc) | (with_reducible apply Kp.drew) | (with_reducible apply Kp.drewN) | (with_reducible refine Kp.setCell ?_ (by first | (dsimp only; omega) | (simp; omega) | (simp; done) | (simp [size_ext_eq]; omega)) _))))
      have HX := Lib.hid (HQ.out k hlt' true _ _ wr (w1.heap.size + 1) (PreB.of _ r4) hrd.rd hcd hld hDR)
      have Hp4 := Lib.hid hpre4
      have Hrd := Lib.hid hrd
      clear hpre hpre4 hrd hcd
      go_wp2_with (first | (go_at_call 40; (with_reducible refine (HX.out).mono ?_); rintro e w2 h2; obtain ⟨v, rfl, hrd2, hk2, hpb⟩ := h2.yes; obtain ⟨tt, uu, rfl⟩ := GeoB.iface hpb; have Hpb : Hid (ColE d ls k wr.heap.size w2.heap.size w2 _) := Lib.hid hpb; have Hrd2 := Lib.hid hrd2; have Hk2 := Lib.hid hk2; have hsz2 := hk2.size; clear h2 hrd2 hk2 hpb) | (at_builtin; refine wpList_append_own2 _ rfl (.tmp 50) (.tmp 52) 101 rfl w.heap.size 52 i0 .nilIface 1 16 Tryz.underlying101 hi hz0 hz1 hz2 rfl (by decide) _ k _ rfl (own_kp (own_kx Hown.out (Hk2.out.mono (S' := [gR, gb]) (by simp)) Hs.out) ((Kp.refl w2).alloc _)) _ 1 1 [.iface tt uu] rfl rfl ?c1 ?c2 ?c3 ?c4 ?c5 ?_))
      case c1 => exact lit1 (by first | rfl | simp [size_ext_eq])
      case c2 => exact fun u hu => by simp at hu; subst hu; rfl
      case c3 => unfold maxLen; omega
      case c4 => omega
      case c5 => simp; omega
      intro v' w4 hown4 hgrow4 hblk
      have hbw : Below w.heap.size w2 w4 := Below.trans (Below.mono (show Kp w2 _ from (by repeat (first | (with_reducible exact Kp.refl _) | (with_reducible assumption) | (with_reducible apply Kp.ext) | (with_reducible apply Kp.alloc) | (with_reducible apply Kp.drew) | (with_reducible apply Kp.drewN) | (with_reducible refine Kp.setCell ?_ (by first | (dsimp only; omega) | (simp; omega) | (simp; done) | (simp [size_ext_eq]; omega)) _)))) (by omega)) (Below.grown (Below.refl _ _) hgrow4 (by simp; omega) (fun q hq => (Hown.out.lt q hq).1))
      have hsame : ∀ b, w.heap.size ≤ b → b < wr.heap.size → (w2.alloc (.cells #[.iface tt uu] 52)).heap[b]? = wr.heap[b]? := fun b hb hl => ((show Kp w2 _ from (by repeat (first | (with_reducible exact Kp.refl _) | (with_reducible assumption) | (with_reducible apply Kp.ext) | (with_reducible apply Kp.alloc) | (with_reducible apply Kp.drew) | (with_reducible apply Kp.drewN) | (with_reducible refine Kp.setCell ?_ (by first | (dsimp only; omega) | (simp; omega) | (simp; done) | (simp [size_ext_eq]; omega)) _)))).block b (by omega)).trans (Hk2.out.block b hl (by simp; omega))
      have HR := Lib.hid (RowsP.stepK (keep_col d ls) (n1 := wr.heap.size) Hrow.out hsame (by simp; omega) ((keep_col d ls) k _ _ _ _ _ (Agree.of_kp ((Kp.refl w2).alloc _) (Nat.le_refl _)) (by simp) Hpb.out) (by omega) (by omega) (by simp) hown4 hgrow4 (by simpa using hblk))
      have hcd4 : w4.cell? ⟨w1.heap.size + 1, 0, none⟩ = some (rdrV gR) := (grown_cell hgrow4 (by simp; omega) (fun e => Hnd.out _ e rfl)).trans (Kp.cell (show Kp w2 _ from (by repeat (first | (with_reducible exact Kp.refl _) | (with_reducible assumption) | (with_reducible apply Kp.ext) | (with_reducible apply Kp.alloc) | (with_reducible apply Kp.drew) | (with_reducible apply Kp.drewN) | (with_reducible refine Kp.setCell ?_ (by first | (dsimp only; omega) | (simp; omega) | (simp; done) | (simp [size_ext_eq]; omega)) _)))) ((Hk2.out.cell hld (by simp; omega)).trans Hcd.out) (by omega))
      have Hcd4 := Lib.hid hcd4
      have hld4 : w1.heap.size + 1 < w4.heap.size := by have := hgrow4.size; simp at this; omega
      have Hnd4 : Hid (∀ g, v'.ownBlock = some g → g ≠ w1.heap.size + 1) := Lib.hid (fun g hg => by
        rcases hblk with e | e
        · exact Hnd.out g (by rw [← e]; exact hg)
        · rw [e] at hg
          have : w2.heap.size + 1 = g := by simpa using hg
          omega)
      have HW : Hid (RdW w0 w2 gR gb r4) := Lib.hid ⟨Hrd2.out, Hrd.out.bf.kx Hk2.out (by simpa using fun e : gb = gR => Hrd.out.ne e.symm), Hrd.out.ne⟩
      clear hown4 hgrow4 hblk hsame hcd4
      go_wp2_with fail
      go_roundw
      case rel => exact ⟨k + 1, r4, _, by omega, by go_num, HW.out.below hbw Hs.out, (Hkx.out.trans (Hk2.out.mono (by simp))).below hbw, Hcd4.out, hld4, HR.out, Hnd4.out, Hp4.out⟩
      case measure => simp [intOf]; omega
    · obtain rfl : k = N := by omega
      rw [Nat.sub_self] at hpre
      have hpre : PreB b [] r rest := hpre
      obtain ⟨rfl, rfl⟩ := hpre.nil
      have hr := hrow.done
      rw [← HN.out] at hr
      have Hr := Lib.hid hr
      have Hrd := Lib.hid hrd
      clear hr hrow hpre hrd hcd
      go_wp2_with fail
      refine bodyPost_ret (v := .tuple #[u11, .nilIface]) (by simp [results, Tryz.results65, go_sem]) rfl ?_
      exact .mk1 (Hrd.out.kp (by repeat (first | (with_reducible exact Kp.refl _) | (with_reducible assumption) | (with_reducible apply Kp.ext) | (with_reducible apply Kp.alloc) | (with_reducible apply Kp.drew) | (with_reducible apply Kp.drewN) | (with_reducible refine Kp.setCell ?_ (by first | (dsimp only; omega) | (simp; omega) | (simp; done) | (simp [size_ext_eq]; omega)) _)))) (hkx.trans (Kx.of_kp (by repeat (first | (with_reducible exact Kp.refl _) | (with_reducible assumption) | (with_reducible apply Kp.ext) | (with_reducible apply Kp.alloc) | (with_reducible apply Kp.drew) | (with_reducible apply Kp.drewN) | (with_reducible refine Kp.setCell ?_ (by first | (dsimp only; omega) | (simp; omega) | (simp; done) | (simp [size_ext_eq]; omega)) _))))) Hr.out
end Go.Proofs.YtobdohhabgnjiaaGreatDoor

set_option linter.all false
namespace Go.Proofs.YtobdohhabgnjiaaGreatDoor
open PubFl Go.RowKit

theorem RetRd.imp {b : Bool} {w0 : World} {gR gb : Nat} {r : List Nat} {w w' : World} {G G' : World → Value → Prop} {z : Value} {e : Ending} (h : RetRd b w0 gR gb r w G z e w') (k : ∀ v, G w' v → G' w' v) : RetRd b w0 gR gb r w G' z e w' :=
  ⟨fun hb => by obtain ⟨v, h1, h2, h3, h4⟩ := h.1 hb; exact ⟨v, h1, h2, h3, k v h4⟩, h.2⟩
theorem pts_kp {lo : Nat} {w w' : World} {v : Value} {ps : List (Nat × Nat)} (h : PtsB lo w.heap.size w v ps) (k : Kp w w') : PtsB lo w'.heap.size w' v ps := (h.keep (Agree.of_kp k (Nat.le_refl _))).mono (Nat.le_refl _) k.size
theorem row_kp {E : Nat → Nat → Nat → World → Value → Prop} (hE : KeepE E) {lo n : Nat} {w w' : World} {v : Value} (h : RowB E lo w.heap.size w v n) (k : Kp w w') : RowB E lo w'.heap.size w' v n := (h.keep hE (Agree.of_kp k (Nat.le_refl _)) k.size).mono (Nat.le_refl _) k.size
theorem ptsForm_one (p : Nat × Nat) (big : Bool) : ptsForm [p] big = num64 p.1 big ++ num64 p.2 big := by unfold ptsForm; simp

theorem dec_c : ∀ (d : Nat) (b : Bool) (s : Sh), cntOk (d + 1) s = true → Small (d + 1) s → BitsSh (d + 1) s → ∀ (sys : Nat), sys ≤ 999999 → ∀ (big turns : Bool) (r bs : List Nat), PreB b (formSh (d + 1) s sys big turns) r bs → ∀ (w0 w : World) (gD gR : Nat), Rdr w0 w gR bs → w.cell? ⟨gD, 0, none⟩ = some (rdrV gR) → gD < w.heap.size → gD ≠ gR → Gls w0 →
    Calls Tryz.prog 40 #[.pointer (some ⟨gD, 0, none⟩)] w (RetDc b w0 gR r w (fun w2 v => GeoB (d + 1) w.heap.size w2.heap.size w2 v s) (sys : Int))
  | d, b, s, hok, hsm, hbits, sys, hsys, big, turns, r, bs, hP, w0, w, gD, gR, h, hd, hgD, hne, hG => by
    obtain ⟨kk, F, hkk, hk1, hk7, hF, hF4⟩ := form_split d s hok sys big turns
    rw [hF] at hP
    rcases hP.step with ⟨r2, rfl, hP2⟩ | ⟨rfl, hcut, _⟩
    rotate_left 1
    · exact dec_head w0 w gD gR kk sys big bs r [] h hd hgD _ _ fun w' h' => readHd_c false w0 w' gR w.heap.size kk sys 8 (by omega) (by omega) big [] bs hcut h' (Nat.le_refl _) hG
    have hH : ∀ w', RdW w0 w' gR w.heap.size (headB kk sys big ++ r2) → Calls Tryz.prog 58 #[rdrV gR, .slice (some ⟨w.heap.size, 0, none⟩) 8 8] w' (RetHd true w0 gR w.heap.size kk sys big r2 w') := fun w' h' => readHd_c true w0 w' gR w.heap.size kk sys 8 (by omega) (by omega) big r2 _ (PreB.of _ _) h' (Nat.le_refl _) hG
    obtain ⟨h1, h2, h3⟩ := cntOk_parts hok
    obtain ⟨k1, k2, k3, k4⟩ := shHead_spec h1
    have hg0 := getD_le hsm.1 0
    rcases (show s.kind = 1 ∨ s.kind = 2 ∨ s.kind = 3 ∨ s.kind = 4 ∨ s.kind = 5 ∨ s.kind = 6 ∨ s.kind = 7 by omega) with hK | hK | hK | hK | hK | hK | hK
    · rw [formB_1 hK] at h3
      simp only [Bool.and_eq_true, decide_eq_true_eq] at h3
      obtain ⟨⟨e1, e2⟩, e3⟩ := h3
      obtain ⟨ps, hps⟩ := List.length_eq_one_iff.1 e1
      rw [hps] at e2
      obtain ⟨⟨x, y⟩, rfl⟩ := List.length_eq_one_iff.1 (show ps.length = 1 from e2)
      have hgd : s.lists.getD 0 [] = [(x, y)] := by rw [hps]; rfl
      obtain rfl : kk = 1 := by omega
      rw [formSh_1 hK, hgd] at hF
      obtain rfl := List.append_cancel_left hF
      obtain ⟨hx, hy⟩ := (hbits.1 [(x, y)] (by rw [hps]; simp)) 0 (by simp)
      rw [ptsForm_one] at hP2
      refine (dec_Point b w0 w gD gR sys big _ r r2 h hd hgD hne (fun _ v => v = .agg #[.float .f64 x, .float .f64 y]) hH (fun _ _ _ _ h => h) fun w' _ h' => readPoint_c b w0 w' gR w.heap.size x y 8 hx hy big r r2 hP2 h' (Nat.le_refl _) hG).mono fun e w2 hR => hR.imp ?_
      rintro v ⟨u, rfl, rfl⟩
      exact .inl ⟨hK, x, y, hps, List.eq_nil_of_length_eq_zero e3, rfl⟩
    · rw [formB_2 hK] at h3
      simp only [Bool.and_eq_true, decide_eq_true_eq] at h3
      obtain ⟨e1, e3⟩ := h3
      obtain ⟨ps, hps⟩ := List.length_eq_one_iff.1 e1
      have hgd : s.lists.getD 0 [] = ps := by rw [hps]; rfl
      obtain rfl : kk = 2 := by omega
      rw [formSh_2 hK, hgd, List.append_assoc] at hF
      obtain rfl := List.append_cancel_left hF
      rw [hgd] at hg0
      refine (dec_LineString b w0 w gD gR sys big _ r r2 h hd hgD hne (fun w2 v => PtsB w.heap.size w2.heap.size w2 v ps) hH (fun _ _ _ k g => pts_kp g k) fun w' hw h' => (readLS_c b w0 w' gR w.heap.size 8 ps hg0 (hbits.1 _ (by rw [hps]; simp)) big r r2 hP2 h' (Nat.le_refl _) hG).mono fun e w2 hR => hR.imp fun v g => g.mono hw (Nat.le_refl _)).mono fun e w2 hR => hR.imp ?_
      rintro v ⟨u, rfl, hg⟩
      exact .inr (.inl ⟨hK, ps, u, hps, List.eq_nil_of_length_eq_zero e3, rfl, hg⟩)
    · rw [formB_3 hK] at h3
      simp only [decide_eq_true_eq] at h3
      obtain rfl : kk = 3 := by omega
      rw [formSh_3 hK, accB_suf, List.append_assoc] at hF
      obtain rfl := List.append_cancel_left hF
      refine (dec_Polygon b w0 w gD gR sys big _ r r2 h hd hgD hne (fun w2 v => RowB (ListE s.lists) w.heap.size w2.heap.size w2 v s.lists.length) hH (fun _ _ _ k g => row_kp (keep_list _) g k) fun w' hw h' => (readPoly_c b w0 w' gR w.heap.size 8 s.lists k3 hsm.1 hbits.1 big _ (fun _ _ => rfl) r r2 hP2 h' (Nat.le_refl _) hG).mono fun e w2 hR => hR.imp fun v g => g.mono hw (Nat.le_refl _)).mono fun e w2 hR => hR.imp ?_
      rintro v ⟨u, rfl, hg⟩
      exact .inr (.inr (.inl ⟨hK, u, List.eq_nil_of_length_eq_zero h3, rfl, hg⟩))
    · rw [formB_4 hK] at h3
      simp only [Bool.and_eq_true, decide_eq_true_eq] at h3
      obtain ⟨e1, e3⟩ := h3
      obtain ⟨ps, hps⟩ := List.length_eq_one_iff.1 e1
      have hgd : s.lists.getD 0 [] = ps := by rw [hps]; rfl
      obtain rfl : kk = 4 := by omega
      rw [formSh_4 hK, hgd, accB_suf, List.append_assoc] at hF
      obtain rfl := List.append_cancel_left hF
      rw [hgd] at hg0
      refine (dec_MultiPoint b w0 w gD gR sys big _ r r2 h hd hgD hne (fun w2 v => PtsB w.heap.size w2.heap.size w2 v ps) hH (fun _ _ _ k g => pts_kp g k) fun w' hw h' => (readMP_c b w0 w' gR w.heap.size 8 ps hg0 (hbits.1 _ (by rw [hps]; simp)) big (!(big == turns)) _ (fun i hi => by
        rw [ptsForm_one, show ps.getD i (0, 0) = ps[i]'hi by rw [List.getD_eq_getElem?_getD, List.getElem?_eq_getElem hi]; rfl]) r r2 hP2 h' (Nat.le_refl _) hG).mono fun e w2 hR => hR.imp fun v g => g.mono hw (Nat.le_refl _)).mono fun e w2 hR => hR.imp ?_
      rintro v ⟨u, rfl, hg⟩
      exact .inr (.inr (.inr (.inl ⟨hK, ps, u, hps, List.eq_nil_of_length_eq_zero e3, rfl, hg⟩)))
    · rw [formB_5 hK] at h3
      simp only [decide_eq_true_eq] at h3
      obtain rfl : kk = 5 := by omega
      rw [formSh_5 hK, accB_suf, List.append_assoc] at hF
      obtain rfl := List.append_cancel_left hF
      refine (dec_MultiLineString b w0 w gD gR sys big _ r r2 h hd hgD hne (fun w2 v => RowB (ListE s.lists) w.heap.size w2.heap.size w2 v s.lists.length) hH (fun _ _ _ k g => row_kp (keep_list _) g k) fun w' hw h' => (readMLS_c b w0 w' gR w.heap.size 8 s.lists k3 hsm.1 hbits.1 big (!(big == turns)) _ (fun i _ => by rw [List.append_assoc]) r r2 hP2 h' (Nat.le_refl _) hG).mono fun e w2 hR => hR.imp fun v g => g.mono hw (Nat.le_refl _)).mono fun e w2 hR => hR.imp ?_
      rintro v ⟨u, rfl, hg⟩
      exact .inr (.inr (.inr (.inr (.inl ⟨hK, u, List.eq_nil_of_length_eq_zero h3, rfl, hg⟩))))
    · rw [formB_6 hK] at h3
      simp only [decide_eq_true_eq] at h3
      obtain rfl : kk = 6 := by omega
      rw [formSh_6 hK, accB_suf, List.append_assoc] at hF
      obtain rfl := List.append_cancel_left hF
      have hpart : ∀ p ∈ s.parts, p.kind = 3 ∧ cntOk d p = true ∧ Small d p ∧ BitsSh d p ∧ ∃ d', d = d' + 1 := fun p hp => by
        obtain ⟨p1, p2⟩ := h2 _ hp
        have hk3 : p.kind = 3 := by
          unfold partB at p2
          rw [hK] at p2
          simpa using p2
        refine ⟨hk3, p1, hsm.2 _ hp, hbits.2 _ hp, ?_⟩
        cases d with
        | zero => cases p1
        | succ d => exact ⟨d, rfl⟩
      refine (dec_MultiPolygon b w0 w gD gR sys big _ r r2 h hd hgD hne (fun w2 v => RowB (PolyE s.parts) w.heap.size w2.heap.size w2 v s.parts.length) hH (fun _ _ _ k g => row_kp (keep_poly _) g k) fun w' hw h' => (readMPoly_c b w0 w' gR w.heap.size 8 s.parts k4 (fun p hp => ?_) big (!(big == turns)) _ (fun i j => num32 ((s.parts.getD i dsh).lists.getD j []).length (!(big == turns)) ++ ptsForm ((s.parts.getD i dsh).lists.getD j []) (!(big == turns))) (fun _ _ _ _ => rfl) (fun i hi => ?_) r r2 hP2 h' (Nat.le_refl _) hG).mono fun e w2 hR => hR.imp fun v g => g.mono hw (Nat.le_refl _)).mono fun e w2 hR => hR.imp ?_
      · obtain ⟨q1, q2, q3, q4, d', rfl⟩ := hpart p hp
        exact ⟨(shHead_spec (cntOk_parts q2).1).2.2.1, q3.1, q4.1⟩
      · obtain ⟨q1, q2, q3, q4, d', rfl⟩ := hpart _ (mem_getD' (z := dsh) hi)
        show formSh (d' + 1) (s.parts.getD i dsh) 0 (!(big == turns)) turns = _
        rw [formSh_3 q1, accB_suf, List.append_assoc]
      · rintro v ⟨u, rfl, hg⟩
        exact .inr (.inr (.inr (.inr (.inr (.inl ⟨hK, u, List.eq_nil_of_length_eq_zero h3, rfl, hg⟩)))))
    · rw [formB_7 hK] at h3
      simp only [decide_eq_true_eq] at h3
      obtain rfl : kk = 7 := by omega
      rw [formSh_7 hK, accB_suf, List.append_assoc] at hF
      obtain rfl := List.append_cancel_left hF
      have hpart : ∀ p ∈ s.parts, cntOk d p = true ∧ Small d p ∧ BitsSh d p := fun p hp => ⟨(h2 _ hp).1, hsm.2 _ hp, hbits.2 _ hp⟩
      refine (dec_Collection b w0 w gD gR sys big _ r r2 h hd hgD hne (fun w2 v => RowB (ColE d s.parts) w.heap.size w2.heap.size w2 v s.parts.length) hH (fun _ _ _ k g => row_kp (keep_col _ _) g k) fun w' hw h' => (readCol_c b w0 w' gR w.heap.size 8 d s.parts k4 big _ r r2 hP2 h' (Nat.le_refl _) hG (fun k hk b' r' bs' w3 gD' hp' hr' hc' hl' hn' => ?_)).mono fun e w2 hR => hR.imp fun v g => g.mono hw (Nat.le_refl _)).mono fun e w2 hR => hR.imp ?_
      · obtain ⟨q1, q2, q3⟩ := hpart _ (mem_getD' (z := dsh) hk)
        cases d with
        | zero => cases q1
        | succ d => exact dec_c d b' _ q1 q2 q3 0 (by decide) (!(big == turns)) turns r' bs' hp' w0 w3 gD' gR hr' hc' hl' hn' hG
      · rintro v ⟨u, rfl, hg⟩
        exact .inr (.inr (.inr (.inr (.inr (.inr ⟨hK, u, List.eq_nil_of_length_eq_zero h3, rfl, hg⟩)))))
end Go.Proofs.YtobdohhabgnjiaaGreatDoor

set_option linter.all false
namespace Go.Proofs.YtobdohhabgnjiaaGreatDoor
open PubFl Go.RowKit

attribute [local go_sem] cell_ext frozen_ext ext_setCell cell_store size_ext_eq lt_p0 lt_p1 lt_p2 lt_p3 lt_p4 lt_p5 lt_p6 lt_p7 lt_p8 lt_p9 lt_p10 lt_p11 lt_p12 lt_p13 lt_p14 lt_p15 lt_p16 lt_p17 lt_p18 lt_p19 lt_p20 lt_p21 lt_p22 lt_p23 lt_p24 lt_p25 lt_p26 lt_p27 lt_p28 lt_p29 lt_p30 lt_p31 lt_p32 lt_q1 lt_q2 lt_q3 lt_q4 lt_q5 lt_q6 lt_q7 lt_q8 lt_q9 lt_q10 lt_q11 lt_q12 lt_q13 lt_q14 lt_q15 lt_q16 lt_q17 lt_q18 lt_q19 lt_q20 lt_q21 lt_q22 lt_q23 lt_q24 lt_q25 lt_q26 lt_q27 lt_q28 lt_q29 lt_q30 lt_q31 lt_q32 run_fop run_store_float
attribute [local go_sem high] cmp_eql cmp_neq cmp_lss cmp_leq cmp_gtr cmp_geq

def NewRd (v : Value) (w : World) (e : Ending) (w' : World) : Prop := e = .returned (.pointer (some ⟨w.heap.size, 0, none⟩)) ∧ w' = w.alloc (.cells #[v, .int .i64 0, .int .i64 (-1)] 112)
theorem newReader_c (a : Option Addr) (n c : Nat) (w : World) : Calls Tryz.prog 25 #[.slice a n c] w (NewRd (.slice a n c) w) := by
  go_enter Tryz.func25, Tryz.ntmps25
  go_wp2_with fail
  go_ret
  exact ⟨rfl, rfl⟩
theorem Rdr.new {w0 w : World} {g off n c : Nat} {bs : List Nat} (hk : Kp w0 w) (hn : n = bs.length) (hnc : n ≤ c) (hm : n ≤ 1000000000000) (hg : g < w0.heap.size) (hb : BytesAt w0 g off bs) : Rdr w0 (w.alloc (.cells #[.slice (some ⟨g, off, none⟩) n c, .int .i64 0, .int .i64 (-1)] 112)) w.heap.size bs :=
  ⟨hk.alloc _, hk.size, by simp, ⟨g, off, n, c, 0, by simp, by simp, by omega, hnc, hm, hg, hb⟩, ⟨-1, by simp⟩, fun j => frozen_newS _ _ _ _⟩

end Go.Proofs.YtobdohhabgnjiaaGreatDoor
