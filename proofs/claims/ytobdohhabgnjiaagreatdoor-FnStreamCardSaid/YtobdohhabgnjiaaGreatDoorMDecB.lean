/-
  unmarshalMultiLineString, unmarshalPolygon.
  unmarshalMultiPoint.
  ScanPolygon.
  unmarshalMultiPolygon.
  wkbcommon.Unmarshal of each kind but collections, wkb.Unmarshal, impl.Decode.
  impl.Decode of the form of a shape of each kind but collections, whole or cut off.
  laws.plain.
  impl.Decode of the form of a shape, whole or cut off.
-/
import Derived.Test.YtobdohhabgnjiaaGreatDoorMDecA
import Derived.Test.YtobdohhabgnjiaaGreatDoorMShOf
import Derived.LaidEql
import Derived.Test.YtobdohhabgnjiaaGreatDoorSo
import Derived.Test.YtobdohhabgnjiaaGreatDoorGeo3
import Derived.KernelRfl
set_option linter.all false
namespace Go.Proofs.YtobdohhabgnjiaaGreatDoor
open PubFl Go.RowKit

attribute [local go_sem] cell_ext frozen_ext ext_setCell cell_store size_ext_eq lt_p0 lt_p1 lt_p2 lt_p3 lt_p4 lt_p5 lt_p6 lt_p7 lt_p8 lt_p9 lt_p10 lt_p11 lt_p12 lt_p13 lt_p14 lt_p15 lt_p16 lt_p17 lt_p18 lt_p19 lt_p20 lt_p21 lt_p22 lt_p23 lt_p24 lt_p25 lt_p26 lt_p27 lt_p28 lt_p29 lt_p30 lt_p31 lt_p32 lt_q1 lt_q2 lt_q3 lt_q4 lt_q5 lt_q6 lt_q7 lt_q8 lt_q9 lt_q10 lt_q11 lt_q12 lt_q13 lt_q14 lt_q15 lt_q16 lt_q17 lt_q18 lt_q19 lt_q20 lt_q21 lt_q22 lt_q23 lt_q24 lt_q25 lt_q26 lt_q27 lt_q28 lt_q29 lt_q30 lt_q31 lt_q32 run_fop run_store_float
attribute [local go_sem high] cmp_eql cmp_neq cmp_lss cmp_leq cmp_gtr cmp_geq

theorem infoLSd : (Tryz.prog.info? 91).map (fun i => (i.zero, i.size, i.bytes)) = some (some (.slice none 0 0), 1, 24) := by kernel_rfl
theorem infoRgd : (Tryz.prog.info? 126).map (fun i => (i.zero, i.size, i.bytes)) = some (some (.slice none 0 0), 1, 24) := by kernel_rfl

set_option maxRecDepth 20000 in
set_option maxHeartbeats 4000000 in
theorem unMLS_l (b big : Bool) (ls : List (List (Nat × Nat))) (hn : ls.length ≤ 40) (hns : ∀ l ∈ ls, l.length ≤ 300) (f : Nat → List Nat) (hf : ∀ i, i < ls.length → (f i).length = 16 * (ls.getD i []).length + 9) (r bs : List Nat)
    (hP : PreB b (num32 ls.length big ++ sufB f 0 ls.length) r bs) (a : Option Addr) (n c : Nat) (hnl : n = bs.length) (hnc : n ≤ c) (hm : n ≤ 1000000000000) (w : World) (hB : BytesO w a bs) (hG : GlE w 3)
    (HS : ∀ (k : Nat), k < ls.length → ∀ (b' : Bool) (r' r2 : List Nat) (a : Option Addr) (n c : Nat) (w' : World), PreB b' (f k) r' r2 → n = r2.length → n ≤ c → n ≤ 1000000000000 → Kp w w' → BytesO w' a r2 → Calls Tryz.prog 87 #[.slice a n c] w' (RetSc b' w' (fun lo hi w v => PtsB lo hi w v (ls.getD k [])) (.slice none 0 0) 0)) :
    Calls Tryz.prog 70 #[.int .i64 (ordI big), .slice a n c] w (RetUn b w (fun lo hi w v => ListsB ls lo hi w v) (.slice none 0 0)) := by
  rcases hP.step with ⟨r0, rfl, hP2⟩ | ⟨rfl, _, hl⟩
  case inr =>
    obtain ⟨hlt, e, he, hea⟩ := hG; have HE := Lib.hid hea; clear hea
    rw [num32_length, ← hnl] at hl
    have i1 : ((n : Int) < 4) := by omega
    generalize ordI big = o at *
    clear HS hP hB hnl hnc hm hf hns
    go_enter Tryz.func70, Tryz.ntmps70
    go_wp2_with fail
    first | (with_reducible refine wp_region_ext_lit2 ?_ ?_ ?_) | refine wp_region_ext_lit ?_ ?_ ?_
    kernel_rfl
    kernel_rfl
    repeat (go_big_quiet_step (fail))
    refine wpQuiet_nil ?_
    rintro _ ⟨u, rfl⟩
    go_wp2_with fail
    refine bodyPost_ret (v := .tuple #[.slice none 0 0, .iface 191 (.pointer (some e))]) (by simp [results, Tryz.results70, go_sem]) rfl ?_
    exact ⟨nofun, fun _ => ⟨e, HE.out.kp (by repeat (first | (with_reducible exact Kp.refl _) | (with_reducible assumption) | (with_reducible apply Kp.ext) | (with_reducible apply Kp.alloc) | (with_reducible apply Kp.drew) | (with_reducible apply Kp.drewN) | (with_reducible refine Kp.setCell ?_ (by first | (dsimp only; omega) | (simp; omega) | (simp; done) | (simp [size_ext_eq]; omega)) _))), Ret.mk rfl (by repeat (first | (with_reducible exact Kp.refl _) | (with_reducible assumption) | (with_reducible apply Kp.ext) | (with_reducible apply Kp.alloc) | (with_reducible apply Kp.drew) | (with_reducible apply Kp.drewN) | (with_reducible refine Kp.setCell ?_ (by first | (dsimp only; omega) | (simp; omega) | (simp; done) | (simp [size_ext_eq]; omega)) _)))⟩⟩
  case inl =>
  obtain ⟨i0, hi, hz0, hz1, hz2⟩ := info_parts infoLSd
  have h4 : 4 ≤ n := by rw [hnl, List.length_append, num32_length]; omega
  obtain ⟨g, off, rfl, hg, hb⟩ := hB.at (by rw [← hnl]; omega)
  have HU := Lib.hid (fun w' (k' : Kp w w') => un32_c ls.length (by omega) big g off n c (by omega) w' (Nat.lt_of_lt_of_le hg k'.size) (hb.front.kp hg k'))
  have hsl := BytesO.sl (c := c) (k := 4) hb (num32_length _ _).symm hg (by omega)
  have hmk : ∀ w, (Instr.makeSlice 97 (.int .i64 0) (.int .u32 (ls.length : Int))).run Tryz.prog w = .ok (.slice (some ⟨w.heap.size, 0, none⟩) 0 ls.length) (w.alloc (.cells (madeCells #[.slice none 0 0] (ls.length * 1)) 91)) := fun w => by
    have := run_make (P := Tryz.prog) w 97 91 i0 (.slice none 0 0) Tryz.underlying97 hi hz0 .i64 .u32 0 (ls.length : Int) (by omega) (by omega) (by rw [hz2]; omega) (by omega)
    rw [this, hz1]
    rfl
  have hn4 : n - 4 = r0.length := by rw [hnl, List.length_append, num32_length]; omega
  have k1 : ((n : Int) < 4) = False := eq_false (by omega)
  have k2 : (4 : Int) ≤ (n : Int) := by omega
  have k6 : ((100 : Int) < (ls.length : Int)) = False := eq_false (by omega)
  obtain ⟨N, hN⟩ : ∃ N, ls.length = N := ⟨_, rfl⟩
  rw [hN] at hn HU hmk k6 hP2 HS
  have Hf := Lib.hid hf
  have HN := Lib.hid hN
  have HP2 := Lib.hid hP2
  have Hsl := Lib.hid hsl
  have Hn4 := Lib.hid hn4
  have Hns := Lib.hid hns
  have HSh := Lib.hid HS
  generalize ordI big = o at *
  clear hP hP2 hB hb hsl hn4 hf hnl HS hN hns
  go_enter Tryz.func70, Tryz.ntmps70
  go_upto_region 4 with (go_at_call 84; (first | (with_reducible refine (Ret.at_ext (HU.out _ (by repeat (first | (with_reducible exact Kp.refl _) | (with_reducible assumption) | (with_reducible apply Kp.ext) | (with_reducible apply Kp.alloc) | (with_reducible apply Kp.drew) | (with_reducible apply Kp.drewN) | (with_reducible refine Kp.setCell ?_ (by first | (dsimp only; omega) | (simp; omega) | (simp; done) | (simp [size_ext_eq]; omega)) _))))).mono ?_) | (with_reducible refine (HU.out _ (by repeat (first | (with_reducible exact Kp.refl _) | (with_reducible assumption) | (with_reducible apply Kp.ext) | (with_reducible apply Kp.alloc) | (with_reducible apply Kp.drew) | (with_reducible apply Kp.drewN) | (with_reducible refine Kp.setCell ?_ (by first | (dsimp only; omega) | (simp; omega) | (simp; done) | (simp [size_ext_eq]; omega)) _)))).mono ?_)); rintro e w' ⟨rfl, u, rfl⟩)
  go_cut [1] (fun s1 wx => ∃ a' : Option Addr, s1 = .slice a' (n - 4) (c - 4) ∧ BytesO w a' r0 ∧ Kp w wx)
  case first =>
    go_wp2_with fail
    all_goals go_meet
    all_goals
      refine ⟨if c = 4 then some ⟨g, off, none⟩ else some ⟨g, off + 4, none⟩, ?_, Hsl.out, (by repeat (first | (with_reducible exact Kp.refl _) | (with_reducible assumption) | (with_reducible apply Kp.ext) | (with_reducible apply Kp.alloc) | (with_reducible apply Kp.drew) | (with_reducible apply Kp.drewN) | (with_reducible refine Kp.setCell ?_ (by first | (dsimp only; omega) | (simp; omega) | (simp; done) | (simp [size_ext_eq]; omega)) _)))⟩
      by_cases hc : c = 4 <;> first | (rw [if_pos hc, hc]; done) | (rw [if_neg hc]; done) | (exact absurd hc (by assumption)) | (exact absurd (by assumption) hc)
  case rest =>
  obtain ⟨a0, rfl, hbo0, hkc⟩ := hcut
  have Hbo0 := Lib.hid hbo0
  clear Hsl hbo0
  go_wp2_with fail
  go_loopw [1, 8, 9] (fun s1 s8 s9 wr => ∃ (k n' c' : Nat) (a' : Option Addr) (r' : List Nat) (xs : List Value), k ≤ N ∧ s9 = .int .i64 k ∧ s1 = .slice a' n' c' ∧ n' = r'.length ∧ n' ≤ c' ∧ n' ≤ 1000000000000 ∧ BytesO w a' r' ∧ PreB b (sufB f k (N - k)) r r' ∧ Kp w wr ∧ RowsP (ListE ls) 91 w.heap.size wr s8 k xs) (fun _ _ s9 _ => N - (intOf s9).toNat)
  case atStart =>
    have hrow : RowsP (ListE ls) 91 w.heap.size (wc.alloc (.cells (madeCells #[.slice none 0 0] (N * 1)) 91)) (.slice (some ⟨wc.heap.size, 0, none⟩) 0 N) 0 [] := ⟨World.ownsRow_made (base := w.heap.size) (e := 91) (size := 1) wc (madeCells #[.slice none 0 0] (N * 1)) N hkc.size (by unfold maxLen; omega) (by simp [size_madeCells]), ⟨_, rfl⟩, fun i hi => by omega⟩
    exact ⟨0, n - 4, c - 4, _, r0, [], Nat.zero_le _, rfl, rfl, Hn4.out, by omega, by omega, Hbo0.out, by rw [Nat.sub_zero]; exact HP2.out, (by repeat (first | (with_reducible exact Kp.refl _) | (with_reducible assumption) | (with_reducible apply Kp.ext) | (with_reducible apply Kp.alloc) | (with_reducible apply Kp.drew) | (with_reducible apply Kp.drewN) | (with_reducible refine Kp.setCell ?_ (by first | (dsimp only; omega) | (simp; omega) | (simp; done) | (simp [size_ext_eq]; omega)) _))), by simpa using hrow⟩
  case round =>
    obtain ⟨k, n', c', a', r', xs, hkn, rfl, rfl, hnr, hnc', hnm, hbo, hpre, hkp, hrow⟩ := hrel
    by_cases hlt : k < N
    · rw [show N - k = (N - (k + 1)) + 1 by omega] at hpre
      have Hrow := Lib.hid hrow
      have hown := hrow.own
      have hsz := hkp.size
      have Hkp := Lib.hid hkp
      rcases PreB.step (F1 := f k) (F2 := sufB f (k + 1) (N - (k + 1))) hpre with ⟨r2, rfl, hpre2⟩ | ⟨rfl, hcut, _⟩
      · obtain ⟨M, hM⟩ : ∃ M, (ls.getD k []).length = M := ⟨_, rfl⟩
        have hfl := Hf.out k (by rw [HN.out]; exact hlt)
        rw [hM] at hfl
        have hM3 : M ≤ 300 := by rw [← hM]; exact Hns.out _ (mem_getD' (z := []) (by rw [HN.out]; exact hlt))
        have hrl : n' = 16 * M + 9 + r2.length := by rw [hnr, List.length_append, hfl]
        obtain ⟨g', off', rfl, hg'0, hb'⟩ := hbo.at (by rw [List.length_append]; omega)
        have hg' : g' < w.heap.size := hg'0
        clear hg'0
        by_cases hc : c' = 16 * M + 9
        · subst hc
          obtain rfl : r2 = [] := List.eq_nil_of_length_eq_zero (by omega)
          have hr20 : True := trivial
          obtain rfl : n' = 16 * M + 9 := by simpa using hrl
          have HI := Lib.hid (fun w' (k' : Kp wr w') => HSh.out k hlt true _ (f k ++ _) (some ⟨g', off', none⟩) (16 * M + 9) (16 * M + 9) w' (PreB.of _ _) hnr (Nat.le_refl _) hnm (hkp.trans k') (hbo.kp (hkp.trans k')))
          have HM := Lib.hid hM
          have Hp2 := Lib.hid hpre2
          have k20 : (0 : Int) ≤ 16 * (M : Int) + 9 := by omega
          clear hnr hbo hpre hpre2 hfl hrl hb' hM hrow
          go_wp2_with (first | (go_at_call 87; (with_reducible refine (HI.out _ (by repeat (first | (with_reducible exact Kp.refl _) | (with_reducible assumption) | (with_reducible apply Kp.ext) | (with_reducible apply Kp.alloc) | (with_reducible apply Kp.drew) | (with_reducible apply Kp.drewN) | (with_reducible refine Kp.setCell ?_ (by first | (dsimp only; omega) | (simp; omega) | (simp; done) | (simp [size_ext_eq]; omega)) _)))).mono ?_); rintro e w1 ⟨h1, _⟩; obtain ⟨v, u', rfl, rfl, hpb⟩ := h1 rfl; clear h1; obtain ⟨g2, cap2, hv2, hpb'⟩ := id hpb; rw [HM.out] at hv2; subst hv2; have Hpb := Lib.hid hpb; clear hpb hpb') | (at_builtin; refine wpList_append_own2 _ rfl (.tmp 48) (.tmp 50) 97 rfl w.heap.size 91 i0 (.slice none 0 0) 1 24 Tryz.underlying97 hi hz0 hz1 hz2 rfl (by decide) _ k _ rfl (own_kp hown (((Kp.refl wr).ext _).alloc _)) _ 1 1 [.slice (some ⟨g2, 0, none⟩) M cap2] rfl rfl ?c1 ?c2 ?c3 ?c4 ?c5 ?_))
          case c1 => exact lit1 (by first | rfl | simp [size_ext_eq])
          case c2 => exact fun u hu => by simp at hu; subst hu; rfl
          case c3 => unfold maxLen; omega
          case c4 => omega
          case c5 => simp [size_ext_eq]; omega
          intro v' w1 hown1 hgrow1 hblk
          have hk1 : Kp w w1 := Below.grown ((Hkp.out.ext _).alloc _) hgrow1 (by simp [size_ext_eq]; omega) (fun q hq => (hown.lt q hq).1)
          have HR := Lib.hid (RowsP.step (keep_list ls) Hrow.out (show Kp wr _ from (by repeat (first | (with_reducible exact Kp.refl _) | (with_reducible assumption) | (with_reducible apply Kp.ext) | (with_reducible apply Kp.alloc) | (with_reducible apply Kp.drew) | (with_reducible apply Kp.drewN) | (with_reducible refine Kp.setCell ?_ (by first | (dsimp only; omega) | (simp; omega) | (simp; done) | (simp [size_ext_eq]; omega)) _)))) ((keep_list ls) k _ _ _ _ _ (Agree.of_kp ((Kp.refl (ext wr u')).alloc _) (Nat.le_refl _)) (by simp) Hpb.out) hsz (Nat.le_refl _) (by simp) hown1 hgrow1 (by simpa [size_ext_eq] using hblk))
          clear hown1 hgrow1 hblk hown
          go_wp2_with fail
          go_roundw
          case rel => exact ⟨k + 1, 0, 0, some ⟨g', off', none⟩, [], _, by omega, by go_num, rfl, rfl, by omega, by omega, .inl rfl, Hp2.out, hk1, HR.out⟩
          case measure => simp [intOf]; omega
        · skip
          have hsl2 := BytesO.sl (c := c') (k := 16 * M + 9) hb' hfl.symm hg' (by rw [← hnr]; exact hnc')
          rw [if_neg hc] at hsl2
          have Hsl2 := Lib.hid hsl2
          have Hr2 := Lib.hid (show n' - (16 * M + 9) = r2.length by omega)
          have HI := Lib.hid (fun w' (k' : Kp wr w') => HSh.out k hlt true _ (f k ++ _) (some ⟨g', off', none⟩) n' c' w' (PreB.of _ _) hnr hnc' hnm (hkp.trans k') (hbo.kp (hkp.trans k')))
          have HM := Lib.hid hM
          have Hp2 := Lib.hid hpre2
          have l1 : (16 * (M : Int) + 9) ≤ (n' : Int) := by omega
          have l2 : (c' = 16 * M + 9) = False := eq_false hc
          have l3 : (16 * M + 9 = c') = False := eq_false (fun e => hc e.symm)
          clear hsl2 hc
          clear hnr hbo hpre hpre2 hfl hrl hb' hM hrow
          go_wp2_with (first | (go_at_call 87; (with_reducible refine (HI.out _ (by repeat (first | (with_reducible exact Kp.refl _) | (with_reducible assumption) | (with_reducible apply Kp.ext) | (with_reducible apply Kp.alloc) | (with_reducible apply Kp.drew) | (with_reducible apply Kp.drewN) | (with_reducible refine Kp.setCell ?_ (by first | (dsimp only; omega) | (simp; omega) | (simp; done) | (simp [size_ext_eq]; omega)) _)))).mono ?_); rintro e w1 ⟨h1, _⟩; obtain ⟨v, u', rfl, rfl, hpb⟩ := h1 rfl; clear h1; obtain ⟨g2, cap2, hv2, hpb'⟩ := id hpb; rw [HM.out] at hv2; subst hv2; have Hpb := Lib.hid hpb; clear hpb hpb') | (at_builtin; refine wpList_append_own2 _ rfl (.tmp 48) (.tmp 50) 97 rfl w.heap.size 91 i0 (.slice none 0 0) 1 24 Tryz.underlying97 hi hz0 hz1 hz2 rfl (by decide) _ k _ rfl (own_kp hown (((Kp.refl wr).ext _).alloc _)) _ 1 1 [.slice (some ⟨g2, 0, none⟩) M cap2] rfl rfl ?c1 ?c2 ?c3 ?c4 ?c5 ?_))
          case c1 => exact lit1 (by first | rfl | simp [size_ext_eq])
          case c2 => exact fun u hu => by simp at hu; subst hu; rfl
          case c3 => unfold maxLen; omega
          case c4 => omega
          case c5 => simp [size_ext_eq]; omega
          intro v' w1 hown1 hgrow1 hblk
          have hk1 : Kp w w1 := Below.grown ((Hkp.out.ext _).alloc _) hgrow1 (by simp [size_ext_eq]; omega) (fun q hq => (hown.lt q hq).1)
          have HR := Lib.hid (RowsP.step (keep_list ls) Hrow.out (show Kp wr _ from (by repeat (first | (with_reducible exact Kp.refl _) | (with_reducible assumption) | (with_reducible apply Kp.ext) | (with_reducible apply Kp.alloc) | (with_reducible apply Kp.drew) | (with_reducible apply Kp.drewN) | (with_reducible refine Kp.setCell ?_ (by first | (dsimp only; omega) | (simp; omega) | (simp; done) | (simp [size_ext_eq]; omega)) _)))) ((keep_list ls) k _ _ _ _ _ (Agree.of_kp ((Kp.refl (ext wr u')).alloc _) (Nat.le_refl _)) (by simp) Hpb.out) hsz (Nat.le_refl _) (by simp) hown1 hgrow1 (by simpa [size_ext_eq] using hblk))
          clear hown1 hgrow1 hblk hown
          go_wp2_with fail
          go_roundw
          case rel => exact ⟨k + 1, _, _, _, r2, _, by omega, by go_num, rfl, Hr2.out, by omega, by omega, Hsl2.out, Hp2.out, hk1, HR.out⟩
          case measure => simp [intOf]; omega
      · have HI := Lib.hid (fun w' (k' : Kp wr w') => HSh.out k hlt false [] r' a' n' c' w' hcut hnr hnc' hnm (hkp.trans k') (hbo.kp (hkp.trans k')))
        clear hnr hbo hpre hrow hcut hown
        go_wp2_with (go_at_call 87; (with_reducible refine (HI.out _ (by repeat (first | (with_reducible exact Kp.refl _) | (with_reducible assumption) | (with_reducible apply Kp.ext) | (with_reducible apply Kp.alloc) | (with_reducible apply Kp.drew) | (with_reducible apply Kp.drewN) | (with_reducible refine Kp.setCell ?_ (by first | (dsimp only; omega) | (simp; omega) | (simp; done) | (simp [size_ext_eq]; omega)) _)))).mono ?_); rintro e w1 ⟨_, h2⟩; obtain ⟨e', hea, rfl, u', rfl⟩ := h2 rfl; have HE := Lib.hid hea; clear h2 hea)
        refine bodyPost_ret (v := .tuple #[.slice none 0 0, .iface 191 (.pointer (some e'))]) (by simp [results, Tryz.results70, go_sem]) rfl ?_
        exact ⟨nofun, fun _ => ⟨e', HE.out.kp (by repeat (first | (with_reducible exact Kp.refl _) | (with_reducible assumption) | (with_reducible apply Kp.ext) | (with_reducible apply Kp.alloc) | (with_reducible apply Kp.drew) | (with_reducible apply Kp.drewN) | (with_reducible refine Kp.setCell ?_ (by first | (dsimp only; omega) | (simp; omega) | (simp; done) | (simp [size_ext_eq]; omega)) _))), Ret.mk rfl (by repeat (first | (with_reducible exact Kp.refl _) | (with_reducible assumption) | (with_reducible apply Kp.ext) | (with_reducible apply Kp.alloc) | (with_reducible apply Kp.drew) | (with_reducible apply Kp.drewN) | (with_reducible refine Kp.setCell ?_ (by first | (dsimp only; omega) | (simp; omega) | (simp; done) | (simp [size_ext_eq]; omega)) _)))⟩⟩
    · obtain rfl : k = N := by omega
      rw [Nat.sub_self] at hpre
      have hpre : PreB b [] r r' := hpre
      obtain ⟨rfl, rfl⟩ := hpre.nil
      have hr := hrow.done
      rw [← HN.out] at hr
      have Hr := Lib.hid hr
      clear hr hrow hnr hbo hpre
      go_wp2_with fail
      refine bodyPost_ret (v := .tuple #[u8, .nilIface]) (by simp [results, Tryz.results70, go_sem]) rfl ?_
      exact ⟨fun _ => ⟨_, _, rfl, ext_of hkp, Hr.out⟩, nofun⟩

set_option maxRecDepth 20000 in
set_option maxHeartbeats 4000000 in
theorem unPoly_l (b big : Bool) (ls : List (List (Nat × Nat))) (hn : ls.length ≤ 40) (hns : ∀ l ∈ ls, l.length ≤ 300) (f : Nat → List Nat) (hf : ∀ i, i < ls.length → (f i).length = 16 * (ls.getD i []).length + 4) (r bs : List Nat)
    (hP : PreB b (num32 ls.length big ++ sufB f 0 ls.length) r bs) (a : Option Addr) (n c : Nat) (hnl : n = bs.length) (hnc : n ≤ c) (hm : n ≤ 1000000000000) (w : World) (hB : BytesO w a bs) (hG : GlE w 3)
    (HS : ∀ (k : Nat), k < ls.length → ∀ (b' : Bool) (r' r2 : List Nat) (a : Option Addr) (n c : Nat) (w' : World), PreB b' (f k) r' r2 → n = r2.length → n ≤ c → n ≤ 1000000000000 → Kp w w' → BytesO w' a r2 → Calls Tryz.prog 86 #[.int .i64 (ordI big), .slice a n c] w' (RetUn b' w' (fun lo hi w v => PtsB lo hi w v (ls.getD k [])) (.slice none 0 0))) :
    Calls Tryz.prog 71 #[.int .i64 (ordI big), .slice a n c] w (RetUn b w (fun lo hi w v => ListsB ls lo hi w v) (.slice none 0 0)) := by
  rcases hP.step with ⟨r0, rfl, hP2⟩ | ⟨rfl, _, hl⟩
  case inr =>
    obtain ⟨hlt, e, he, hea⟩ := hG; have HE := Lib.hid hea; clear hea
    rw [num32_length, ← hnl] at hl
    have i1 : ((n : Int) < 4) := by omega
    generalize ordI big = o at *
    clear HS hP hB hnl hnc hm hf hns
    go_enter Tryz.func71, Tryz.ntmps71
    go_wp2_with fail
    first | (with_reducible refine wp_region_ext_lit2 ?_ ?_ ?_) | refine wp_region_ext_lit ?_ ?_ ?_
    kernel_rfl
    kernel_rfl
    repeat (go_big_quiet_step (fail))
    refine wpQuiet_nil ?_
    rintro _ ⟨u, rfl⟩
    go_wp2_with fail
    refine bodyPost_ret (v := .tuple #[.slice none 0 0, .iface 191 (.pointer (some e))]) (by simp [results, Tryz.results71, go_sem]) rfl ?_
    exact ⟨nofun, fun _ => ⟨e, HE.out.kp (by repeat (first | (with_reducible exact Kp.refl _) | (with_reducible assumption) | (with_reducible apply Kp.ext) | (with_reducible apply Kp.alloc) | (with_reducible apply Kp.drew) | (with_reducible apply Kp.drewN) | (with_reducible refine Kp.setCell ?_ (by first | (dsimp only; omega) | (simp; omega) | (simp; done) | (simp [size_ext_eq]; omega)) _))), Ret.mk rfl (by repeat (first | (with_reducible exact Kp.refl _) | (with_reducible assumption) | (with_reducible apply Kp.ext) | (with_reducible apply Kp.alloc) | (with_reducible apply Kp.drew) | (with_reducible apply Kp.drewN) | (with_reducible refine Kp.setCell ?_ (by first | (dsimp only; omega) | (simp; omega) | (simp; done) | (simp [size_ext_eq]; omega)) _)))⟩⟩
  case inl =>
  obtain ⟨i0, hi, hz0, hz1, hz2⟩ := info_parts infoRgd
  have h4 : 4 ≤ n := by rw [hnl, List.length_append, num32_length]; omega
  obtain ⟨g, off, rfl, hg, hb⟩ := hB.at (by rw [← hnl]; omega)
  have HU := Lib.hid (fun w' (k' : Kp w w') => un32_c ls.length (by omega) big g off n c (by omega) w' (Nat.lt_of_lt_of_le hg k'.size) (hb.front.kp hg k'))
  have hsl := BytesO.sl (c := c) (k := 4) hb (num32_length _ _).symm hg (by omega)
  have hmk : ∀ w, (Instr.makeSlice 93 (.int .i64 0) (.int .u32 (ls.length : Int))).run Tryz.prog w = .ok (.slice (some ⟨w.heap.size, 0, none⟩) 0 ls.length) (w.alloc (.cells (madeCells #[.slice none 0 0] (ls.length * 1)) 126)) := fun w => by
    have := run_make (P := Tryz.prog) w 93 126 i0 (.slice none 0 0) Tryz.underlying93 hi hz0 .i64 .u32 0 (ls.length : Int) (by omega) (by omega) (by rw [hz2]; omega) (by omega)
    rw [this, hz1]
    rfl
  have hn4 : n - 4 = r0.length := by rw [hnl, List.length_append, num32_length]; omega
  have k1 : ((n : Int) < 4) = False := eq_false (by omega)
  have k2 : (4 : Int) ≤ (n : Int) := by omega
  have k6 : ((100 : Int) < (ls.length : Int)) = False := eq_false (by omega)
  obtain ⟨N, hN⟩ : ∃ N, ls.length = N := ⟨_, rfl⟩
  rw [hN] at hn HU hmk k6 hP2 HS
  have Hf := Lib.hid hf
  have HN := Lib.hid hN
  have HP2 := Lib.hid hP2
  have Hsl := Lib.hid hsl
  have Hn4 := Lib.hid hn4
  have Hns := Lib.hid hns
  have HSh := Lib.hid HS
  generalize ordI big = o at *
  clear hP hP2 hB hb hsl hn4 hf hnl HS hN hns
  go_enter Tryz.func71, Tryz.ntmps71
  go_upto_region 4 with (go_at_call 84; (first | (with_reducible refine (Ret.at_ext (HU.out _ (by repeat (first | (with_reducible exact Kp.refl _) | (with_reducible assumption) | (with_reducible apply Kp.ext) | (with_reducible apply Kp.alloc) | (with_reducible apply Kp.drew) | (with_reducible apply Kp.drewN) | (with_reducible refine Kp.setCell ?_ (by first | (dsimp only; omega) | (simp; omega) | (simp; done) | (simp [size_ext_eq]; omega)) _))))).mono ?_) | (with_reducible refine (HU.out _ (by repeat (first | (with_reducible exact Kp.refl _) | (with_reducible assumption) | (with_reducible apply Kp.ext) | (with_reducible apply Kp.alloc) | (with_reducible apply Kp.drew) | (with_reducible apply Kp.drewN) | (with_reducible refine Kp.setCell ?_ (by first | (dsimp only; omega) | (simp; omega) | (simp; done) | (simp [size_ext_eq]; omega)) _)))).mono ?_)); rintro e w' ⟨rfl, u, rfl⟩)
  go_cut [1] (fun s1 wx => ∃ a' : Option Addr, s1 = .slice a' (n - 4) (c - 4) ∧ BytesO w a' r0 ∧ Kp w wx)
  case first =>
    go_wp2_with fail
    all_goals go_meet
    all_goals
      refine ⟨if c = 4 then some ⟨g, off, none⟩ else some ⟨g, off + 4, none⟩, ?_, Hsl.out, (by repeat (first | (with_reducible exact Kp.refl _) | (with_reducible assumption) | (with_reducible apply Kp.ext) | (with_reducible apply Kp.alloc) | (with_reducible apply Kp.drew) | (with_reducible apply Kp.drewN) | (with_reducible refine Kp.setCell ?_ (by first | (dsimp only; omega) | (simp; omega) | (simp; done) | (simp [size_ext_eq]; omega)) _)))⟩
      by_cases hc : c = 4 <;> first | (rw [if_pos hc, hc]; done) | (rw [if_neg hc]; done) | (exact absurd hc (by assumption)) | (exact absurd (by assumption) hc)
  case rest =>
  obtain ⟨a0, rfl, hbo0, hkc⟩ := hcut
  have Hbo0 := Lib.hid hbo0
  clear Hsl hbo0
  go_wp2_with fail
  go_loopw [1, 8, 9] (fun s1 s8 s9 wr => ∃ (k n' c' : Nat) (a' : Option Addr) (r' : List Nat) (xs : List Value), k ≤ N ∧ s9 = .int .i64 k ∧ s1 = .slice a' n' c' ∧ n' = r'.length ∧ n' ≤ c' ∧ n' ≤ 1000000000000 ∧ BytesO w a' r' ∧ PreB b (sufB f k (N - k)) r r' ∧ Kp w wr ∧ RowsP (ListE ls) 126 w.heap.size wr s8 k xs) (fun _ _ s9 _ => N - (intOf s9).toNat)
  case atStart =>
    have hrow : RowsP (ListE ls) 126 w.heap.size (wc.alloc (.cells (madeCells #[.slice none 0 0] (N * 1)) 126)) (.slice (some ⟨wc.heap.size, 0, none⟩) 0 N) 0 [] := ⟨World.ownsRow_made (base := w.heap.size) (e := 126) (size := 1) wc (madeCells #[.slice none 0 0] (N * 1)) N hkc.size (by unfold maxLen; omega) (by simp [size_madeCells]), ⟨_, rfl⟩, fun i hi => by omega⟩
    exact ⟨0, n - 4, c - 4, _, r0, [], Nat.zero_le _, rfl, rfl, Hn4.out, by omega, by omega, Hbo0.out, by rw [Nat.sub_zero]; exact HP2.out, (by repeat (first | (with_reducible exact Kp.refl _) | (with_reducible assumption) | (with_reducible apply Kp.ext) | (with_reducible apply Kp.alloc) | (with_reducible apply Kp.drew) | (with_reducible apply Kp.drewN) | (with_reducible refine Kp.setCell ?_ (by first | (dsimp only; omega) | (simp; omega) | (simp; done) | (simp [size_ext_eq]; omega)) _))), by simpa using hrow⟩
  case round =>
    obtain ⟨k, n', c', a', r', xs, hkn, rfl, rfl, hnr, hnc', hnm, hbo, hpre, hkp, hrow⟩ := hrel
    by_cases hlt : k < N
    · rw [show N - k = (N - (k + 1)) + 1 by omega] at hpre
      have Hrow := Lib.hid hrow
      have hown := hrow.own
      have hsz := hkp.size
      have Hkp := Lib.hid hkp
      rcases PreB.step (F1 := f k) (F2 := sufB f (k + 1) (N - (k + 1))) hpre with ⟨r2, rfl, hpre2⟩ | ⟨rfl, hcut, _⟩
      · obtain ⟨M, hM⟩ : ∃ M, (ls.getD k []).length = M := ⟨_, rfl⟩
        have hfl := Hf.out k (by rw [HN.out]; exact hlt)
        rw [hM] at hfl
        have hM3 : M ≤ 300 := by rw [← hM]; exact Hns.out _ (mem_getD' (z := []) (by rw [HN.out]; exact hlt))
        have hrl : n' = 16 * M + 4 + r2.length := by rw [hnr, List.length_append, hfl]
        obtain ⟨g', off', rfl, hg'0, hb'⟩ := hbo.at (by rw [List.length_append]; omega)
        have hg' : g' < w.heap.size := hg'0
        clear hg'0
        by_cases hc : c' = 16 * M + 4
        · subst hc
          obtain rfl : r2 = [] := List.eq_nil_of_length_eq_zero (by omega)
          have hr20 : True := trivial
          obtain rfl : n' = 16 * M + 4 := by simpa using hrl
          have HI := Lib.hid (fun w' (k' : Kp wr w') => HSh.out k hlt true _ (f k ++ _) (some ⟨g', off', none⟩) (16 * M + 4) (16 * M + 4) w' (PreB.of _ _) hnr (Nat.le_refl _) hnm (hkp.trans k') (hbo.kp (hkp.trans k')))
          have HM := Lib.hid hM
          have Hp2 := Lib.hid hpre2
          have k20 : (0 : Int) ≤ 16 * (M : Int) + 4 := by omega
          clear hnr hbo hpre hpre2 hfl hrl hb' hM hrow
          go_wp2_with (first | (go_at_call 86; (with_reducible refine (HI.out _ (by repeat (first | (with_reducible exact Kp.refl _) | (with_reducible assumption) | (with_reducible apply Kp.ext) | (with_reducible apply Kp.alloc) | (with_reducible apply Kp.drew) | (with_reducible apply Kp.drewN) | (with_reducible refine Kp.setCell ?_ (by first | (dsimp only; omega) | (simp; omega) | (simp; done) | (simp [size_ext_eq]; omega)) _)))).mono ?_); rintro e w1 ⟨h1, _⟩; obtain ⟨v, u', rfl, rfl, hpb⟩ := h1 rfl; clear h1; obtain ⟨g2, cap2, hv2, hpb'⟩ := id hpb; rw [HM.out] at hv2; subst hv2; have Hpb := Lib.hid hpb; clear hpb hpb') | (at_builtin; refine wpList_append_own2 _ rfl (.tmp 47) (.tmp 49) 93 rfl w.heap.size 126 i0 (.slice none 0 0) 1 24 Tryz.underlying93 hi hz0 hz1 hz2 rfl (by decide) _ k _ rfl (own_kp hown (((Kp.refl wr).ext _).alloc _)) _ 1 1 [.slice (some ⟨g2, 0, none⟩) M cap2] rfl rfl ?c1 ?c2 ?c3 ?c4 ?c5 ?_))
          case c1 => exact lit1 (by first | rfl | simp [size_ext_eq])
          case c2 => exact fun u hu => by simp at hu; subst hu; rfl
          case c3 => unfold maxLen; omega
          case c4 => omega
          case c5 => simp [size_ext_eq]; omega
          intro v' w1 hown1 hgrow1 hblk
          have hk1 : Kp w w1 := Below.grown ((Hkp.out.ext _).alloc _) hgrow1 (by simp [size_ext_eq]; omega) (fun q hq => (hown.lt q hq).1)
          have HR := Lib.hid (RowsP.step (keep_list ls) Hrow.out (show Kp wr _ from (by repeat (first | (with_reducible exact Kp.refl _) | (with_reducible assumption) | (with_reducible apply Kp.ext) | (with_reducible apply Kp.alloc) | (with_reducible apply Kp.drew) | (with_reducible apply Kp.drewN) | (with_reducible refine Kp.setCell ?_ (by first | (dsimp only; omega) | (simp; omega) | (simp; done) | (simp [size_ext_eq]; omega)) _)))) ((keep_list ls) k _ _ _ _ _ (Agree.of_kp ((Kp.refl (ext wr u')).alloc _) (Nat.le_refl _)) (by simp) Hpb.out) hsz (Nat.le_refl _) (by simp) hown1 hgrow1 (by simpa [size_ext_eq] using hblk))
          clear hown1 hgrow1 hblk hown
          go_wp2_with fail
          go_roundw
          case rel => exact ⟨k + 1, 0, 0, some ⟨g', off', none⟩, [], _, by omega, by go_num, rfl, rfl, by omega, by omega, .inl rfl, Hp2.out, hk1, HR.out⟩
          case measure => simp [intOf]; omega
        · skip
          have hsl2 := BytesO.sl (c := c') (k := 16 * M + 4) hb' hfl.symm hg' (by rw [← hnr]; exact hnc')
          rw [if_neg hc] at hsl2
          have Hsl2 := Lib.hid hsl2
          have Hr2 := Lib.hid (show n' - (16 * M + 4) = r2.length by omega)
          have HI := Lib.hid (fun w' (k' : Kp wr w') => HSh.out k hlt true _ (f k ++ _) (some ⟨g', off', none⟩) n' c' w' (PreB.of _ _) hnr hnc' hnm (hkp.trans k') (hbo.kp (hkp.trans k')))
          have HM := Lib.hid hM
          have Hp2 := Lib.hid hpre2
          have l1 : (16 * (M : Int) + 4) ≤ (n' : Int) := by omega
          have l2 : (c' = 16 * M + 4) = False := eq_false hc
          have l3 : (16 * M + 4 = c') = False := eq_false (fun e => hc e.symm)
          clear hsl2 hc
          clear hnr hbo hpre hpre2 hfl hrl hb' hM hrow
          go_wp2_with (first | (go_at_call 86; (with_reducible refine (HI.out _ (by repeat (first | (with_reducible exact Kp.refl _) | (with_reducible assumption) | (with_reducible apply Kp.ext) | (with_reducible apply Kp.alloc) | (with_reducible apply Kp.drew) | (with_reducible apply Kp.drewN) | (with_reducible refine Kp.setCell ?_ (by first | (dsimp only; omega) | (simp; omega) | (simp; done) | (simp [size_ext_eq]; omega)) _)))).mono ?_); rintro e w1 ⟨h1, _⟩; obtain ⟨v, u', rfl, rfl, hpb⟩ := h1 rfl; clear h1; obtain ⟨g2, cap2, hv2, hpb'⟩ := id hpb; rw [HM.out] at hv2; subst hv2; have Hpb := Lib.hid hpb; clear hpb hpb') | (at_builtin; refine wpList_append_own2 _ rfl (.tmp 47) (.tmp 49) 93 rfl w.heap.size 126 i0 (.slice none 0 0) 1 24 Tryz.underlying93 hi hz0 hz1 hz2 rfl (by decide) _ k _ rfl (own_kp hown (((Kp.refl wr).ext _).alloc _)) _ 1 1 [.slice (some ⟨g2, 0, none⟩) M cap2] rfl rfl ?c1 ?c2 ?c3 ?c4 ?c5 ?_))
          case c1 => exact lit1 (by first | rfl | simp [size_ext_eq])
          case c2 => exact fun u hu => by simp at hu; subst hu; rfl
          case c3 => unfold maxLen; omega
          case c4 => omega
          case c5 => simp [size_ext_eq]; omega
          intro v' w1 hown1 hgrow1 hblk
          have hk1 : Kp w w1 := Below.grown ((Hkp.out.ext _).alloc _) hgrow1 (by simp [size_ext_eq]; omega) (fun q hq => (hown.lt q hq).1)
          have HR := Lib.hid (RowsP.step (keep_list ls) Hrow.out (show Kp wr _ from (by repeat (first | (with_reducible exact Kp.refl _) | (with_reducible assumption) | (with_reducible apply Kp.ext) | (with_reducible apply Kp.alloc) | (with_reducible apply Kp.drew) | (with_reducible apply Kp.drewN) | (with_reducible refine Kp.setCell ?_ (by first | (dsimp only; omega) | (simp; omega) | (simp; done) | (simp [size_ext_eq]; omega)) _)))) ((keep_list ls) k _ _ _ _ _ (Agree.of_kp ((Kp.refl (ext wr u')).alloc _) (Nat.le_refl _)) (by simp) Hpb.out) hsz (Nat.le_refl _) (by simp) hown1 hgrow1 (by simpa [size_ext_eq] using hblk))
          clear hown1 hgrow1 hblk hown
          go_wp2_with fail
          go_roundw
          case rel => exact ⟨k + 1, _, _, _, r2, _, by omega, by go_num, rfl, Hr2.out, by omega, by omega, Hsl2.out, Hp2.out, hk1, HR.out⟩
          case measure => simp [intOf]; omega
      · have HI := Lib.hid (fun w' (k' : Kp wr w') => HSh.out k hlt false [] r' a' n' c' w' hcut hnr hnc' hnm (hkp.trans k') (hbo.kp (hkp.trans k')))
        clear hnr hbo hpre hrow hcut hown
        go_wp2_with (go_at_call 86; (with_reducible refine (HI.out _ (by repeat (first | (with_reducible exact Kp.refl _) | (with_reducible assumption) | (with_reducible apply Kp.ext) | (with_reducible apply Kp.alloc) | (with_reducible apply Kp.drew) | (with_reducible apply Kp.drewN) | (with_reducible refine Kp.setCell ?_ (by first | (dsimp only; omega) | (simp; omega) | (simp; done) | (simp [size_ext_eq]; omega)) _)))).mono ?_); rintro e w1 ⟨_, h2⟩; obtain ⟨e', hea, rfl, u', rfl⟩ := h2 rfl; have HE := Lib.hid hea; clear h2 hea)
        refine bodyPost_ret (v := .tuple #[.slice none 0 0, .iface 191 (.pointer (some e'))]) (by simp [results, Tryz.results71, go_sem]) rfl ?_
        exact ⟨nofun, fun _ => ⟨e', HE.out.kp (by repeat (first | (with_reducible exact Kp.refl _) | (with_reducible assumption) | (with_reducible apply Kp.ext) | (with_reducible apply Kp.alloc) | (with_reducible apply Kp.drew) | (with_reducible apply Kp.drewN) | (with_reducible refine Kp.setCell ?_ (by first | (dsimp only; omega) | (simp; omega) | (simp; done) | (simp [size_ext_eq]; omega)) _))), Ret.mk rfl (by repeat (first | (with_reducible exact Kp.refl _) | (with_reducible assumption) | (with_reducible apply Kp.ext) | (with_reducible apply Kp.alloc) | (with_reducible apply Kp.drew) | (with_reducible apply Kp.drewN) | (with_reducible refine Kp.setCell ?_ (by first | (dsimp only; omega) | (simp; omega) | (simp; done) | (simp [size_ext_eq]; omega)) _)))⟩⟩
    · obtain rfl : k = N := by omega
      rw [Nat.sub_self] at hpre
      have hpre : PreB b [] r r' := hpre
      obtain ⟨rfl, rfl⟩ := hpre.nil
      have hr := hrow.done
      rw [← HN.out] at hr
      have Hr := Lib.hid hr
      clear hr hrow hnr hbo hpre
      go_wp2_with fail
      refine bodyPost_ret (v := .tuple #[u8, .nilIface]) (by simp [results, Tryz.results71, go_sem]) rfl ?_
      exact ⟨fun _ => ⟨_, _, rfl, ext_of hkp, Hr.out⟩, nofun⟩

end Go.Proofs.YtobdohhabgnjiaaGreatDoor

set_option linter.all false
namespace Go.Proofs.YtobdohhabgnjiaaGreatDoor
open PubFl Go.RowKit

attribute [local go_sem] cell_ext frozen_ext ext_setCell cell_store size_ext_eq lt_p0 lt_p1 lt_p2 lt_p3 lt_p4 lt_p5 lt_p6 lt_p7 lt_p8 lt_p9 lt_p10 lt_p11 lt_p12 lt_p13 lt_p14 lt_p15 lt_p16 lt_p17 lt_p18 lt_p19 lt_p20 lt_p21 lt_p22 lt_p23 lt_p24 lt_p25 lt_p26 lt_p27 lt_p28 lt_p29 lt_p30 lt_p31 lt_p32 lt_q1 lt_q2 lt_q3 lt_q4 lt_q5 lt_q6 lt_q7 lt_q8 lt_q9 lt_q10 lt_q11 lt_q12 lt_q13 lt_q14 lt_q15 lt_q16 lt_q17 lt_q18 lt_q19 lt_q20 lt_q21 lt_q22 lt_q23 lt_q24 lt_q25 lt_q26 lt_q27 lt_q28 lt_q29 lt_q30 lt_q31 lt_q32 run_fop run_store_float
attribute [local go_sem high] cmp_eql cmp_neq cmp_lss cmp_leq cmp_gtr cmp_geq

set_option maxRecDepth 20000 in
set_option maxHeartbeats 4000000 in
theorem unMP_l (b big : Bool) (ps : List (Nat × Nat)) (hn : ps.length ≤ 300) (f : Nat → List Nat) (hf : ∀ i, i < ps.length → (f i).length = 21) (r bs : List Nat)
    (hP : PreB b (num32 ps.length big ++ sufB f 0 ps.length) r bs) (a : Option Addr) (n c : Nat) (hnl : n = bs.length) (hnc : n ≤ c) (hm : n ≤ 1000000000000) (w : World) (hB : BytesO w a bs) (hG : GlE w 3)
    (HS : ∀ (k : Nat) (hk : k < ps.length) (b' : Bool) (r' r2 : List Nat) (a : Option Addr) (n c : Nat) (w' : World), PreB b' (f k) r' r2 → n = r2.length → n ≤ c → n ≤ 1000000000000 → Kp w w' → BytesO w' a r2 → Calls Tryz.prog 85 #[.slice a n c] w' (RetSc b' w' (fun _ _ _ v => v = .agg #[.float .f64 (ps[k]'hk).1, .float .f64 (ps[k]'hk).2]) (.agg #[.float .f64 0, .float .f64 0]) 0)) :
    Calls Tryz.prog 68 #[.int .i64 (ordI big), .slice a n c] w (RetUn b w (fun lo hi w v => PtsB lo hi w v ps) (.slice none 0 0)) := by
  rcases hP.step with ⟨r0, rfl, hP2⟩ | ⟨rfl, _, hl⟩
  case inr =>
    obtain ⟨hlt, e, he, hea⟩ := hG; have HE := Lib.hid hea; clear hea
    rw [num32_length, ← hnl] at hl
    have i1 : ((n : Int) < 4) := by omega
    generalize ordI big = o at *
    clear HS hP hB hnl hnc hm hf
    go_enter Tryz.func68, Tryz.ntmps68
    go_wp2_with fail
    first | (with_reducible refine wp_region_ext_lit2 ?_ ?_ ?_) | refine wp_region_ext_lit ?_ ?_ ?_
    kernel_rfl
    kernel_rfl
    repeat (go_big_quiet_step (fail))
    refine wpQuiet_nil ?_
    rintro _ ⟨u, rfl⟩
    go_wp2_with fail
    refine bodyPost_ret (v := .tuple #[.slice none 0 0, .iface 191 (.pointer (some e))]) (by simp [results, Tryz.results68, go_sem]) rfl ?_
    exact ⟨nofun, fun _ => ⟨e, HE.out.kp (by repeat (first | (with_reducible exact Kp.refl _) | (with_reducible assumption) | (with_reducible apply Kp.ext) | (with_reducible apply Kp.alloc) | (with_reducible apply Kp.drew) | (with_reducible apply Kp.drewN) | (with_reducible refine Kp.setCell ?_ (by first | (dsimp only; omega) | (simp; omega) | (simp; done) | (simp [size_ext_eq]; omega)) _))), Ret.mk rfl (by repeat (first | (with_reducible exact Kp.refl _) | (with_reducible assumption) | (with_reducible apply Kp.ext) | (with_reducible apply Kp.alloc) | (with_reducible apply Kp.drew) | (with_reducible apply Kp.drewN) | (with_reducible refine Kp.setCell ?_ (by first | (dsimp only; omega) | (simp; omega) | (simp; done) | (simp [size_ext_eq]; omega)) _)))⟩⟩
  case inl =>
  obtain ⟨i0, hi, hz0, hz1, hz2⟩ := info_parts infoOPt
  have h4 : 4 ≤ n := by rw [hnl, List.length_append, num32_length]; omega
  obtain ⟨g, off, rfl, hg, hb⟩ := hB.at (by rw [← hnl]; omega)
  have HU := Lib.hid (fun w' (k' : Kp w w') => un32_c ps.length (by omega) big g off n c (by omega) w' (Nat.lt_of_lt_of_le hg k'.size) (hb.front.kp hg k'))
  have hsl := BytesO.sl (c := c) (k := 4) hb (num32_length _ _).symm hg (by omega)
  have hmk : ∀ (C : Nat), C ≤ 300 → ∀ w, (Instr.makeSlice 95 (.int .i64 0) (.int .u32 (C : Int))).run Tryz.prog w = .ok (.slice (some ⟨w.heap.size, 0, none⟩) 0 C) (w.alloc (.cells (madeCells #[.float .f64 0, .float .f64 0] (C * 2)) 88)) := fun C hC w => by
    have := run_make (P := Tryz.prog) w 95 88 i0 (.agg #[.float .f64 0, .float .f64 0]) Tryz.underlying95 hi hz0 .i64 .u32 0 (C : Int) (by omega) (by omega) (by rw [hz2]; omega) (by omega)
    rw [this, hz1]
    rfl
  have hn4 : n - 4 = r0.length := by rw [hnl, List.length_append, num32_length]; omega
  have k1 : ((n : Int) < 4) = False := eq_false (by omega)
  have k2 : (4 : Int) ≤ (n : Int) := by omega
  obtain ⟨N, hN⟩ : ∃ N, ps.length = N := ⟨_, rfl⟩
  have HSh := Lib.hid HS
  have Hf := Lib.hid hf
  clear HS hf
  rw [hN] at hn HU hP2
  have HN := Lib.hid hN
  have HP2 := Lib.hid hP2
  have Hsl := Lib.hid hsl
  have Hn4 := Lib.hid hn4
  have Hmk := Lib.hid hmk
  generalize ordI big = o at *
  clear hP hP2 hB hb hsl hn4 hnl hN hmk
  go_enter Tryz.func68, Tryz.ntmps68
  go_upto_region 4 with (go_at_call 84; (first | (with_reducible refine (Ret.at_ext (HU.out _ (by repeat (first | (with_reducible exact Kp.refl _) | (with_reducible assumption) | (with_reducible apply Kp.ext) | (with_reducible apply Kp.alloc) | (with_reducible apply Kp.drew) | (with_reducible apply Kp.drewN) | (with_reducible refine Kp.setCell ?_ (by first | (dsimp only; omega) | (simp; omega) | (simp; done) | (simp [size_ext_eq]; omega)) _))))).mono ?_) | (with_reducible refine (HU.out _ (by repeat (first | (with_reducible exact Kp.refl _) | (with_reducible assumption) | (with_reducible apply Kp.ext) | (with_reducible apply Kp.alloc) | (with_reducible apply Kp.drew) | (with_reducible apply Kp.drewN) | (with_reducible refine Kp.setCell ?_ (by first | (dsimp only; omega) | (simp; omega) | (simp; done) | (simp [size_ext_eq]; omega)) _)))).mono ?_)); rintro e w' ⟨rfl, u, rfl⟩)
  go_cut [1] (fun s1 wx => ∃ a' : Option Addr, s1 = .slice a' (n - 4) (c - 4) ∧ BytesO w a' r0 ∧ Kp w wx)
  case first =>
    go_wp2_with fail
    all_goals go_meet
    all_goals
      refine ⟨if c = 4 then some ⟨g, off, none⟩ else some ⟨g, off + 4, none⟩, ?_, Hsl.out, (by repeat (first | (with_reducible exact Kp.refl _) | (with_reducible assumption) | (with_reducible apply Kp.ext) | (with_reducible apply Kp.alloc) | (with_reducible apply Kp.drew) | (with_reducible apply Kp.drewN) | (with_reducible refine Kp.setCell ?_ (by first | (dsimp only; omega) | (simp; omega) | (simp; done) | (simp [size_ext_eq]; omega)) _)))⟩
      by_cases hc : c = 4 <;> first | (rw [if_pos hc, hc]; done) | (rw [if_neg hc]; done) | (exact absurd hc (by assumption)) | (exact absurd (by assumption) hc)
  case rest =>
  obtain ⟨a0, rfl, hbo0, hkc⟩ := hcut
  have Hbo0 := Lib.hid hbo0
  clear Hsl hbo0
  by_cases h100 : N ≤ 100
  · have k6 : ((100 : Int) < (N : Int)) = False := eq_false (by omega)
    have hmk : ∀ w, (Instr.makeSlice 95 (.int .i64 0) (.int .u32 (N : Int))).run Tryz.prog w = .ok (.slice (some ⟨w.heap.size, 0, none⟩) 0 N) (w.alloc (.cells (madeCells #[.float .f64 0, .float .f64 0] (N * 2)) 88)) := Hmk.out N (by omega)
    go_wp2_with fail
    go_loopw [1, 8, 9] (fun s1 s8 s9 wr => ∃ (k n' c' : Nat) (a' : Option Addr) (r' : List Nat), k ≤ N ∧ s9 = .int .i64 k ∧ s1 = .slice a' n' c' ∧ n' = r'.length ∧ n' ≤ c' ∧ n' ≤ 1000000000000 ∧ BytesO w a' r' ∧ PreB b (sufB f k (N - k)) r r' ∧ Kp w wr ∧ wr.ownsRow w.heap.size 88 2 s8 k (cellsOf (ps.take k)) ∧ ∃ g, s8.ownBlock = some g) (fun _ _ s9 _ => N - (intOf s9).toNat)
    case atStart =>
      have hrow : (wc.alloc (.cells (madeCells #[.float .f64 0, .float .f64 0] (N * 2)) 88)).ownsRow w.heap.size 88 2 (.slice (some ⟨wc.heap.size, 0, none⟩) 0 N) 0 [] := World.ownsRow_made (base := w.heap.size) (e := 88) (size := 2) wc (madeCells #[.float .f64 0, .float .f64 0] (N * 2)) N hkc.size (by unfold maxLen; omega) (by simp [size_madeCells])
      exact ⟨0, n - 4, c - 4, _, r0, Nat.zero_le _, rfl, rfl, Hn4.out, by omega, by omega, Hbo0.out, by rw [Nat.sub_zero]; exact HP2.out, (by repeat (first | (with_reducible exact Kp.refl _) | (with_reducible assumption) | (with_reducible apply Kp.ext) | (with_reducible apply Kp.alloc) | (with_reducible apply Kp.drew) | (with_reducible apply Kp.drewN) | (with_reducible refine Kp.setCell ?_ (by first | (dsimp only; omega) | (simp; omega) | (simp; done) | (simp [size_ext_eq]; omega)) _))), hrow, _, rfl⟩
    case round =>
    obtain ⟨k, n', c', a', r', hkn, rfl, rfl, hnr, hnc', hnm, hbo, hpre, hkp, hown, g0, hg0⟩ := hrel
    by_cases hlt : k < N
    · rw [show N - k = (N - (k + 1)) + 1 by omega] at hpre
      have hsz := hkp.size
      have Hkp := Lib.hid hkp
      have hlt' : k < ps.length := by rw [HN.out]; exact hlt
      have hc1 : cellsOf (ps.take (k + 1)) = cellsOf (ps.take k) ++ [.float .f64 (ps[k]'hlt').1, .float .f64 (ps[k]'hlt').2] := by
        rw [List.take_succ_eq_append_getElem hlt', cellsOf_snoc]
      obtain ⟨⟨px, py⟩, hq⟩ : ∃ q, ps[k]'hlt' = q := ⟨_, rfl⟩
      rw [hq] at hc1
      simp only at hc1
      have Hown := Lib.hid hown
      have Hc := Lib.hid hc1
      have Hg0 := Lib.hid hg0
      clear hown hc1 hg0
      rcases PreB.step (F1 := f k) (F2 := sufB f (k + 1) (N - (k + 1))) hpre with ⟨r2, rfl, hpre2⟩ | ⟨rfl, hcut, _⟩
      rotate_left 1
      · have HI := Lib.hid (fun w' (k' : Kp wr w') => HSh.out k hlt' false [] r' a' n' c' w' hcut hnr hnc' hnm (hkp.trans k') (hbo.kp (hkp.trans k')))
        rw [hq] at HI
        clear hnr hbo hpre hcut hq
        go_wp2_with (go_at_call 85; (with_reducible refine (HI.out _ (by repeat (first | (with_reducible exact Kp.refl _) | (with_reducible assumption) | (with_reducible apply Kp.ext) | (with_reducible apply Kp.alloc) | (with_reducible apply Kp.drew) | (with_reducible apply Kp.drewN) | (with_reducible refine Kp.setCell ?_ (by first | (dsimp only; omega) | (simp; omega) | (simp; done) | (simp [size_ext_eq]; omega)) _)))).mono ?_); rintro e w1 ⟨_, h2⟩; obtain ⟨e', hea, rfl, u', rfl⟩ := h2 rfl; have HE := Lib.hid hea; clear h2 hea)
        refine bodyPost_ret (v := .tuple #[.slice none 0 0, .iface 191 (.pointer (some e'))]) (by simp [results, Tryz.results68, go_sem]) rfl ?_
        exact ⟨nofun, fun _ => ⟨e', HE.out.kp (by repeat (first | (with_reducible exact Kp.refl _) | (with_reducible assumption) | (with_reducible apply Kp.ext) | (with_reducible apply Kp.alloc) | (with_reducible apply Kp.drew) | (with_reducible apply Kp.drewN) | (with_reducible refine Kp.setCell ?_ (by first | (dsimp only; omega) | (simp; omega) | (simp; done) | (simp [size_ext_eq]; omega)) _))), Ret.mk rfl (by repeat (first | (with_reducible exact Kp.refl _) | (with_reducible assumption) | (with_reducible apply Kp.ext) | (with_reducible apply Kp.alloc) | (with_reducible apply Kp.drew) | (with_reducible apply Kp.drewN) | (with_reducible refine Kp.setCell ?_ (by first | (dsimp only; omega) | (simp; omega) | (simp; done) | (simp [size_ext_eq]; omega)) _)))⟩⟩
      have hfl := Hf.out k hlt'
      have hrl : n' = 21 + r2.length := by rw [hnr, List.length_append, hfl]
      obtain ⟨g', off', rfl, hg'0, hb'⟩ := hbo.at (by rw [List.length_append]; omega)
      have hg' : g' < w.heap.size := hg'0
      clear hg'0
      by_cases hc : c' = 21
      · subst hc
        obtain rfl : r2 = [] := List.eq_nil_of_length_eq_zero (by omega)
        obtain rfl : n' = 21 := by simpa using hrl
        have HI := Lib.hid (fun w' (k' : Kp wr w') => HSh.out k hlt' true _ (f k ++ _) (some ⟨g', off', none⟩) 21 21 w' (PreB.of _ _) hnr (Nat.le_refl _) hnm (hkp.trans k') (hbo.kp (hkp.trans k')))
        rw [hq] at HI
        simp only at HI
        have Hp2 := Lib.hid hpre2
        
        clear hnr hbo hpre hpre2 hfl hrl hb' hq
        go_wp2_with (first | (go_at_call 85; (with_reducible refine (HI.out _ (by repeat (first | (with_reducible exact Kp.refl _) | (with_reducible assumption) | (with_reducible apply Kp.ext) | (with_reducible apply Kp.alloc) | (with_reducible apply Kp.drew) | (with_reducible apply Kp.drewN) | (with_reducible refine Kp.setCell ?_ (by first | (dsimp only; omega) | (simp; omega) | (simp; done) | (simp [size_ext_eq]; omega)) _)))).mono ?_); rintro e w1 ⟨h1, _⟩; obtain ⟨v, u', rfl, rfl, rfl⟩ := h1 rfl; clear h1) | (at_builtin; refine wpList_append_own2 _ rfl (.tmp 44) (.tmp 46) 95 rfl w.heap.size 88 i0 (.agg #[.float .f64 0, .float .f64 0]) 2 16 Tryz.underlying95 hi hz0 hz1 hz2 rfl (by decide) _ k _ rfl (own_kp Hown.out ((((Kp.refl wr).ext _).alloc _).alloc _)) _ 1 1 [.float .f64 px, .float .f64 py] rfl rfl ?c1 ?c2 ?c3 ?c4 ?c5 ?_))
        case c1 => (first | exact new_cells2 _ _ _ _ | (have h := new_cells2 ((ext wr u').alloc (.cells #[.float .f64 px, .float .f64 py] 88)) px py 88; rw [World.size_alloc, size_ext_eq] at h; exact h))
        case c2 => exact one_cells2 _ _
        case c3 => unfold maxLen; omega
        case c4 => omega
        case c5 => simp [size_ext_eq]; omega
        intro v' w1 hown1 hgrow1 hblk
        have hk1 : Kp w w1 := Below.grown (((Hkp.out.ext _).alloc _).alloc _) hgrow1 (by simp [size_ext_eq]; omega) (fun q hq => (Hown.out.lt q hq).1)
        have hnn : ∃ g, v'.ownBlock = some g := by rcases hblk with e | e <;> exact ⟨_, e.trans (by first | exact Hg0.out | rfl)⟩
        have hown1 := Lib.hid hown1
        clear hgrow1 hblk
        go_wp2_with fail
        go_roundw
        case rel => exact ⟨k + 1, 0, 0, some ⟨g', off', none⟩, [], by omega, by go_num, rfl, rfl, by omega, by omega, .inl rfl, Hp2.out, hk1, (by rw [Hc.out]; exact hown1.out), hnn⟩
        case measure => simp [intOf]; omega
      · have hsl2 := BytesO.sl (c := c') (k := 21) hb' hfl.symm hg' (by rw [← hnr]; exact hnc')
        rw [if_neg hc] at hsl2
        have Hsl2 := Lib.hid hsl2
        have Hr2 := Lib.hid (show n' - 21 = r2.length by omega)
        have HI := Lib.hid (fun w' (k' : Kp wr w') => HSh.out k hlt' true _ (f k ++ _) (some ⟨g', off', none⟩) n' c' w' (PreB.of _ _) hnr hnc' hnm (hkp.trans k') (hbo.kp (hkp.trans k')))
        rw [hq] at HI
        simp only at HI
        have Hp2 := Lib.hid hpre2
        have l1 : (21 : Int) ≤ (n' : Int) := by omega
        have l2 : (c' = 21) = False := eq_false hc
        have l3 : (21 = c') = False := eq_false (fun e => hc e.symm)
        clear hsl2 hc
        clear hnr hbo hpre hpre2 hfl hrl hb' hq
        go_wp2_with (first | (go_at_call 85; (with_reducible refine (HI.out _ (by repeat (first | (with_reducible exact Kp.refl _) | (with_reducible assumption) | (with_reducible apply Kp.ext) | (with_reducible apply Kp.alloc) | (with_reducible apply Kp.drew) | (with_reducible apply Kp.drewN) | (with_reducible refine Kp.setCell ?_ (by first | (dsimp only; omega) | (simp; omega) | (simp; done) | (simp [size_ext_eq]; omega)) _)))).mono ?_); rintro e w1 ⟨h1, _⟩; obtain ⟨v, u', rfl, rfl, rfl⟩ := h1 rfl; clear h1) | (at_builtin; refine wpList_append_own2 _ rfl (.tmp 44) (.tmp 46) 95 rfl w.heap.size 88 i0 (.agg #[.float .f64 0, .float .f64 0]) 2 16 Tryz.underlying95 hi hz0 hz1 hz2 rfl (by decide) _ k _ rfl (own_kp Hown.out ((((Kp.refl wr).ext _).alloc _).alloc _)) _ 1 1 [.float .f64 px, .float .f64 py] rfl rfl ?c1 ?c2 ?c3 ?c4 ?c5 ?_))
        case c1 => (first | exact new_cells2 _ _ _ _ | (have h := new_cells2 ((ext wr u').alloc (.cells #[.float .f64 px, .float .f64 py] 88)) px py 88; rw [World.size_alloc, size_ext_eq] at h; exact h))
        case c2 => exact one_cells2 _ _
        case c3 => unfold maxLen; omega
        case c4 => omega
        case c5 => simp [size_ext_eq]; omega
        intro v' w1 hown1 hgrow1 hblk
        have hk1 : Kp w w1 := Below.grown (((Hkp.out.ext _).alloc _).alloc _) hgrow1 (by simp [size_ext_eq]; omega) (fun q hq => (Hown.out.lt q hq).1)
        have hnn : ∃ g, v'.ownBlock = some g := by rcases hblk with e | e <;> exact ⟨_, e.trans (by first | exact Hg0.out | rfl)⟩
        have hown1 := Lib.hid hown1
        clear hgrow1 hblk
        go_wp2_with fail
        go_roundw
        case rel => exact ⟨k + 1, _, _, _, r2, by omega, by go_num, rfl, Hr2.out, by omega, by omega, Hsl2.out, Hp2.out, hk1, (by rw [Hc.out]; exact hown1.out), hnn⟩
        case measure => simp [intOf]; omega
    · obtain rfl : k = N := by omega
      rw [Nat.sub_self] at hpre
      have hpre : PreB b [] r r' := hpre
      obtain ⟨rfl, rfl⟩ := hpre.nil
      have hr : wr.ownsRow w.heap.size 88 2 u8 ps.length (cellsOf ps) := by
        rw [← HN.out, List.take_of_length_le (Nat.le_refl _)] at hown
        exact hown
      have Hr := Lib.hid (own_ptsB hr ⟨_, hg0⟩)
      clear hr hown hnr hbo hpre hg0
      go_wp2_with fail
      refine bodyPost_ret (v := .tuple #[u8, .nilIface]) (by simp [results, Tryz.results68, go_sem]) rfl ?_
      exact ⟨fun _ => ⟨_, _, rfl, ext_of hkp, Hr.out⟩, nofun⟩
  · have k6 : ((100 : Int) < (N : Int)) := by omega
    have hmk : ∀ w, (Instr.makeSlice 95 (.int .i64 0) (.int .u32 (100 : Int))).run Tryz.prog w = .ok (.slice (some ⟨w.heap.size, 0, none⟩) 0 100) (w.alloc (.cells (madeCells #[.float .f64 0, .float .f64 0] (100 * 2)) 88)) := Hmk.out 100 (by omega)
    go_wp2_with fail
    go_loopw [1, 8, 9] (fun s1 s8 s9 wr => ∃ (k n' c' : Nat) (a' : Option Addr) (r' : List Nat), k ≤ N ∧ s9 = .int .i64 k ∧ s1 = .slice a' n' c' ∧ n' = r'.length ∧ n' ≤ c' ∧ n' ≤ 1000000000000 ∧ BytesO w a' r' ∧ PreB b (sufB f k (N - k)) r r' ∧ Kp w wr ∧ wr.ownsRow w.heap.size 88 2 s8 k (cellsOf (ps.take k)) ∧ ∃ g, s8.ownBlock = some g) (fun _ _ s9 _ => N - (intOf s9).toNat)
    case atStart =>
      have hrow : (wc.alloc (.cells (madeCells #[.float .f64 0, .float .f64 0] (100 * 2)) 88)).ownsRow w.heap.size 88 2 (.slice (some ⟨wc.heap.size, 0, none⟩) 0 100) 0 [] := World.ownsRow_made (base := w.heap.size) (e := 88) (size := 2) wc (madeCells #[.float .f64 0, .float .f64 0] (100 * 2)) 100 hkc.size (by unfold maxLen; omega) (by simp [size_madeCells])
      exact ⟨0, n - 4, c - 4, _, r0, Nat.zero_le _, rfl, rfl, Hn4.out, by omega, by omega, Hbo0.out, by rw [Nat.sub_zero]; exact HP2.out, (by repeat (first | (with_reducible exact Kp.refl _) | (with_reducible assumption) | (with_reducible apply Kp.ext) | (with_reducible apply Kp.alloc) | (with_reducible apply Kp.drew) | (with_reducible apply Kp.drewN) | (with_reducible refine Kp.setCell ?_ (by first | (dsimp only; omega) | (simp; omega) | (simp; done) | (simp [size_ext_eq]; omega)) _))), hrow, _, rfl⟩
    case round =>
    obtain ⟨k, n', c', a', r', hkn, rfl, rfl, hnr, hnc', hnm, hbo, hpre, hkp, hown, g0, hg0⟩ := hrel
    by_cases hlt : k < N
    · rw [show N - k = (N - (k + 1)) + 1 by omega] at hpre
      have hsz := hkp.size
      have Hkp := Lib.hid hkp
      have hlt' : k < ps.length := by rw [HN.out]; exact hlt
      have hc1 : cellsOf (ps.take (k + 1)) = cellsOf (ps.take k) ++ [.float .f64 (ps[k]'hlt').1, .float .f64 (ps[k]'hlt').2] := by
        rw [List.take_succ_eq_append_getElem hlt', cellsOf_snoc]
      obtain ⟨⟨px, py⟩, hq⟩ : ∃ q, ps[k]'hlt' = q := ⟨_, rfl⟩
      rw [hq] at hc1
      simp only at hc1
      have Hown := Lib.hid hown
      have Hc := Lib.hid hc1
      have Hg0 := Lib.hid hg0
      clear hown hc1 hg0
      rcases PreB.step (F1 := f k) (F2 := sufB f (k + 1) (N - (k + 1))) hpre with ⟨r2, rfl, hpre2⟩ | ⟨rfl, hcut, _⟩
      rotate_left 1
      · have HI := Lib.hid (fun w' (k' : Kp wr w') => HSh.out k hlt' false [] r' a' n' c' w' hcut hnr hnc' hnm (hkp.trans k') (hbo.kp (hkp.trans k')))
        rw [hq] at HI
        clear hnr hbo hpre hcut hq
        go_wp2_with (go_at_call 85; (with_reducible refine (HI.out _ (by repeat (first | (with_reducible exact Kp.refl _) | (with_reducible assumption) | (with_reducible apply Kp.ext) | (with_reducible apply Kp.alloc) | (with_reducible apply Kp.drew) | (with_reducible apply Kp.drewN) | (with_reducible refine Kp.setCell ?_ (by first | (dsimp only; omega) | (simp; omega) | (simp; done) | (simp [size_ext_eq]; omega)) _)))).mono ?_); rintro e w1 ⟨_, h2⟩; obtain ⟨e', hea, rfl, u', rfl⟩ := h2 rfl; have HE := Lib.hid hea; clear h2 hea)
        refine bodyPost_ret (v := .tuple #[.slice none 0 0, .iface 191 (.pointer (some e'))]) (by simp [results, Tryz.results68, go_sem]) rfl ?_
        exact ⟨nofun, fun _ => ⟨e', HE.out.kp (by repeat (first | (with_reducible exact Kp.refl _) | (with_reducible assumption) | (with_reducible apply Kp.ext) | (with_reducible apply Kp.alloc) | (with_reducible apply Kp.drew) | (with_reducible apply Kp.drewN) | (with_reducible refine Kp.setCell ?_ (by first | (dsimp only; omega) | (simp; omega) | (simp; done) | (simp [size_ext_eq]; omega)) _))), Ret.mk rfl (by repeat (first | (with_reducible exact Kp.refl _) | (with_reducible assumption) | (with_reducible apply Kp.ext) | (with_reducible apply Kp.alloc) | (with_reducible apply Kp.drew) | (with_reducible apply Kp.drewN) | (with_reducible refine Kp.setCell ?_ (by first | (dsimp only; omega) | (simp; omega) | (simp; done) | (simp [size_ext_eq]; omega)) _)))⟩⟩
      have hfl := Hf.out k hlt'
      have hrl : n' = 21 + r2.length := by rw [hnr, List.length_append, hfl]
      obtain ⟨g', off', rfl, hg'0, hb'⟩ := hbo.at (by rw [List.length_append]; omega)
      have hg' : g' < w.heap.size := hg'0
      clear hg'0
      by_cases hc : c' = 21
      · subst hc
        obtain rfl : r2 = [] := List.eq_nil_of_length_eq_zero (by omega)
        obtain rfl : n' = 21 := by simpa using hrl
        have HI := Lib.hid (fun w' (k' : Kp wr w') => HSh.out k hlt' true _ (f k ++ _) (some ⟨g', off', none⟩) 21 21 w' (PreB.of _ _) hnr (Nat.le_refl _) hnm (hkp.trans k') (hbo.kp (hkp.trans k')))
        rw [hq] at HI
        simp only at HI
        have Hp2 := Lib.hid hpre2
        
        clear hnr hbo hpre hpre2 hfl hrl hb' hq
        go_wp2_with (first | (go_at_call 85; (with_reducible refine (HI.out _ (by repeat (first | (with_reducible exact Kp.refl _) | (with_reducible assumption) | (with_reducible apply Kp.ext) | (with_reducible apply Kp.alloc) | (with_reducible apply Kp.drew) | (with_reducible apply Kp.drewN) | (with_reducible refine Kp.setCell ?_ (by first | (dsimp only; omega) | (simp; omega) | (simp; done) | (simp [size_ext_eq]; omega)) _)))).mono ?_); rintro e w1 ⟨h1, _⟩; obtain ⟨v, u', rfl, rfl, rfl⟩ := h1 rfl; clear h1) | (at_builtin; refine wpList_append_own2 _ rfl (.tmp 44) (.tmp 46) 95 rfl w.heap.size 88 i0 (.agg #[.float .f64 0, .float .f64 0]) 2 16 Tryz.underlying95 hi hz0 hz1 hz2 rfl (by decide) _ k _ rfl (own_kp Hown.out ((((Kp.refl wr).ext _).alloc _).alloc _)) _ 1 1 [.float .f64 px, .float .f64 py] rfl rfl ?c1 ?c2 ?c3 ?c4 ?c5 ?_))
        case c1 => (first | exact new_cells2 _ _ _ _ | (have h := new_cells2 ((ext wr u').alloc (.cells #[.float .f64 px, .float .f64 py] 88)) px py 88; rw [World.size_alloc, size_ext_eq] at h; exact h))
        case c2 => exact one_cells2 _ _
        case c3 => unfold maxLen; omega
        case c4 => omega
        case c5 => simp [size_ext_eq]; omega
        intro v' w1 hown1 hgrow1 hblk
        have hk1 : Kp w w1 := Below.grown (((Hkp.out.ext _).alloc _).alloc _) hgrow1 (by simp [size_ext_eq]; omega) (fun q hq => (Hown.out.lt q hq).1)
        have hnn : ∃ g, v'.ownBlock = some g := by rcases hblk with e | e <;> exact ⟨_, e.trans (by first | exact Hg0.out | rfl)⟩
        have hown1 := Lib.hid hown1
        clear hgrow1 hblk
        go_wp2_with fail
        go_roundw
        case rel => exact ⟨k + 1, 0, 0, some ⟨g', off', none⟩, [], by omega, by go_num, rfl, rfl, by omega, by omega, .inl rfl, Hp2.out, hk1, (by rw [Hc.out]; exact hown1.out), hnn⟩
        case measure => simp [intOf]; omega
      · have hsl2 := BytesO.sl (c := c') (k := 21) hb' hfl.symm hg' (by rw [← hnr]; exact hnc')
        rw [if_neg hc] at hsl2
        have Hsl2 := Lib.hid hsl2
        have Hr2 := Lib.hid (show n' - 21 = r2.length by omega)
        have HI := Lib.hid (fun w' (k' : Kp wr w') => HSh.out k hlt' true _ (f k ++ _) (some ⟨g', off', none⟩) n' c' w' (PreB.of _ _) hnr hnc' hnm (hkp.trans k') (hbo.kp (hkp.trans k')))
        rw [hq] at HI
        simp only at HI
        have Hp2 := Lib.hid hpre2
        have l1 : (21 : Int) ≤ (n' : Int) := by omega
        have l2 : (c' = 21) = False := eq_false hc
        have l3 : (21 = c') = False := eq_false (fun e => hc e.symm)
        clear hsl2 hc
        clear hnr hbo hpre hpre2 hfl hrl hb' hq
        go_wp2_with (first | (go_at_call 85; (with_reducible refine (HI.out _ (by repeat (first | (with_reducible exact Kp.refl _) | (with_reducible assumption) | (with_reducible apply Kp.ext) | (with_reducible apply Kp.alloc) | (with_reducible apply Kp.drew) | (with_reducible apply Kp.drewN) | (with_reducible refine Kp.setCell ?_ (by first | (dsimp only; omega) | (simp; omega) | (simp; done) | (simp [size_ext_eq]; omega)) _)))).mono ?_); rintro e w1 ⟨h1, _⟩; obtain ⟨v, u', rfl, rfl, rfl⟩ := h1 rfl; clear h1) | (at_builtin; refine wpList_append_own2 _ rfl (.tmp 44) (.tmp 46) 95 rfl w.heap.size 88 i0 (.agg #[.float .f64 0, .float .f64 0]) 2 16 Tryz.underlying95 hi hz0 hz1 hz2 rfl (by decide) _ k _ rfl (own_kp Hown.out ((((Kp.refl wr).ext _).alloc _).alloc _)) _ 1 1 [.float .f64 px, .float .f64 py] rfl rfl ?c1 ?c2 ?c3 ?c4 ?c5 ?_))
        case c1 => (first | exact new_cells2 _ _ _ _ | (have h := new_cells2 ((ext wr u').alloc (.cells #[.float .f64 px, .float .f64 py] 88)) px py 88; rw [World.size_alloc, size_ext_eq] at h; exact h))
        case c2 => exact one_cells2 _ _
        case c3 => unfold maxLen; omega
        case c4 => omega
        case c5 => simp [size_ext_eq]; omega
        intro v' w1 hown1 hgrow1 hblk
        have hk1 : Kp w w1 := Below.grown (((Hkp.out.ext _).alloc _).alloc _) hgrow1 (by simp [size_ext_eq]; omega) (fun q hq => (Hown.out.lt q hq).1)
        have hnn : ∃ g, v'.ownBlock = some g := by rcases hblk with e | e <;> exact ⟨_, e.trans (by first | exact Hg0.out | rfl)⟩
        have hown1 := Lib.hid hown1
        clear hgrow1 hblk
        go_wp2_with fail
        go_roundw
        case rel => exact ⟨k + 1, _, _, _, r2, by omega, by go_num, rfl, Hr2.out, by omega, by omega, Hsl2.out, Hp2.out, hk1, (by rw [Hc.out]; exact hown1.out), hnn⟩
        case measure => simp [intOf]; omega
    · obtain rfl : k = N := by omega
      rw [Nat.sub_self] at hpre
      have hpre : PreB b [] r r' := hpre
      obtain ⟨rfl, rfl⟩ := hpre.nil
      have hr : wr.ownsRow w.heap.size 88 2 u8 ps.length (cellsOf ps) := by
        rw [← HN.out, List.take_of_length_le (Nat.le_refl _)] at hown
        exact hown
      have Hr := Lib.hid (own_ptsB hr ⟨_, hg0⟩)
      clear hr hown hnr hbo hpre hg0
      go_wp2_with fail
      refine bodyPost_ret (v := .tuple #[u8, .nilIface]) (by simp [results, Tryz.results68, go_sem]) rfl ?_
      exact ⟨fun _ => ⟨_, _, rfl, ext_of hkp, Hr.out⟩, nofun⟩

end Go.Proofs.YtobdohhabgnjiaaGreatDoor

set_option linter.all false
namespace Go.Proofs.YtobdohhabgnjiaaGreatDoor
open PubFl Go.RowKit

attribute [local go_sem] cell_ext frozen_ext ext_setCell cell_store size_ext_eq lt_p0 lt_p1 lt_p2 lt_p3 lt_p4 lt_p5 lt_p6 lt_p7 lt_p8 lt_p9 lt_p10 lt_p11 lt_p12 lt_p13 lt_p14 lt_p15 lt_p16 lt_p17 lt_p18 lt_p19 lt_p20 lt_p21 lt_p22 lt_p23 lt_p24 lt_p25 lt_p26 lt_p27 lt_p28 lt_p29 lt_p30 lt_p31 lt_p32 lt_q1 lt_q2 lt_q3 lt_q4 lt_q5 lt_q6 lt_q7 lt_q8 lt_q9 lt_q10 lt_q11 lt_q12 lt_q13 lt_q14 lt_q15 lt_q16 lt_q17 lt_q18 lt_q19 lt_q20 lt_q21 lt_q22 lt_q23 lt_q24 lt_q25 lt_q26 lt_q27 lt_q28 lt_q29 lt_q30 lt_q31 lt_q32 run_fop run_store_float
attribute [local go_sem high] cmp_eql cmp_neq cmp_lss cmp_leq cmp_gtr cmp_geq

set_option maxRecDepth 20000 in
set_option maxHeartbeats 1000000 in
theorem scanPoly_c (b big : Bool) (F : List Nat) (hF : 0 < F.length) (ls : List (List (Nat × Nat))) (r bs : List Nat) (hP : PreB b (headB 3 0 big ++ F) r bs) (a : Option Addr) (n c : Nat) (hnl : n = bs.length) (hnc : n ≤ c) (w : World) (hB : BytesO w a bs) (hG : GlE w 3)
    (HU : ∀ (a : Option Addr) (n c : Nat) (r2 : List Nat) (w' : World), PreB b F r r2 → n = r2.length → n ≤ c → n ≤ bs.length → Kp w w' → BytesO w' a r2 → Calls Tryz.prog 71 #[.int .i64 (ordI big), .slice a n c] w' (RetUn b w' (fun lo hi w v => ListsB ls lo hi w v) (.slice none 0 0))) :
    Calls Tryz.prog 88 #[.slice a n c] w (RetSc b w (fun lo hi w v => ListsB ls lo hi w v) (.slice none 0 0) 0) := by
  subst hnl
  rcases hP.head (by rw [headB_length]; rfl) hF with ⟨rfl, hl⟩ | ⟨h6, r2, rfl, hP2⟩
  · have H := Lib.hid (fun w' (k : Kp w w') => ubot_err _ w' (bot_short a bs.length c hl w' (hG.kp k)))
    generalize bs.length = n at *
    clear hP hl hB hnc HU
    go_enter Tryz.func88, Tryz.ntmps88
    go_wp2_with (go_at_call 66; (with_reducible refine (H.out _ (by repeat (first | (with_reducible exact Kp.refl _) | (with_reducible assumption) | (with_reducible apply Kp.ext) | (with_reducible apply Kp.alloc) | (with_reducible apply Kp.drew) | (with_reducible apply Kp.drewN) | (with_reducible refine Kp.setCell ?_ (by first | (dsimp only; omega) | (simp; omega) | (simp; done) | (simp [size_ext_eq]; omega)) _)))).mono ?_); rintro e w' ⟨a', hea, rfl, u, rfl⟩; have HE := Lib.hid hea; clear hea)
    refine bodyPost_ret (v := .tuple #[.slice none 0 0, .int .i64 0, .iface 191 (.pointer (some a'))]) (by simp [results, Tryz.results88, go_sem]) rfl ?_
    exact ⟨nofun, fun _ => ⟨a', HE.out.kp (by repeat (first | (with_reducible exact Kp.refl _) | (with_reducible assumption) | (with_reducible apply Kp.ext) | (with_reducible apply Kp.alloc) | (with_reducible apply Kp.drew) | (with_reducible apply Kp.drewN) | (with_reducible refine Kp.setCell ?_ (by first | (dsimp only; omega) | (simp; omega) | (simp; done) | (simp [size_ext_eq]; omega)) _))), Ret.mk rfl (by repeat (first | (with_reducible exact Kp.refl _) | (with_reducible assumption) | (with_reducible apply Kp.ext) | (with_reducible apply Kp.alloc) | (with_reducible apply Kp.drew) | (with_reducible apply Kp.drewN) | (with_reducible refine Kp.setCell ?_ (by first | (dsimp only; omega) | (simp; omega) | (simp; done) | (simp [size_ext_eq]; omega)) _)))⟩⟩
  · obtain ⟨g, off, rfl, hg, hb⟩ := hB.at (by omega)
    have H := Lib.hid (fun w' (k : Kp w w') => (ubot_at 3 (by decide) big r2 g off _ c rfl h6 hnc w' (Nat.lt_of_lt_of_le hg k.size) (hb.kp hg k)).1)
    obtain ⟨_, hbo, hlen⟩ := (ubot_at 3 (by decide) big r2 g off _ c rfl h6 hnc w hg hb)
    have H2 := Lib.hid (fun w' (k : Kp w w') => HU (some ⟨g, off + 5, none⟩) _ (c - 5) r2 w' hP2 hlen (by omega) (by omega) k (hbo.kp k))
    generalize ordI big = o at *
    generalize (headB 3 0 big ++ r2).length = n at *
    clear hP hP2 hB hb hbo hnc hlen h6 HU
    cases b
    · go_enter Tryz.func88, Tryz.ntmps88
      go_wp2_with (first | (go_at_call 66; (first | (with_reducible refine (Ret.at_ext (H.out _ (by repeat (first | (with_reducible exact Kp.refl _) | (with_reducible assumption) | (with_reducible apply Kp.ext) | (with_reducible apply Kp.alloc) | (with_reducible apply Kp.drew) | (with_reducible apply Kp.drewN) | (with_reducible refine Kp.setCell ?_ (by first | (dsimp only; omega) | (simp; omega) | (simp; done) | (simp [size_ext_eq]; omega)) _))))).mono ?_) | (with_reducible refine (H.out _ (by repeat (first | (with_reducible exact Kp.refl _) | (with_reducible assumption) | (with_reducible apply Kp.ext) | (with_reducible apply Kp.alloc) | (with_reducible apply Kp.drew) | (with_reducible apply Kp.drewN) | (with_reducible refine Kp.setCell ?_ (by first | (dsimp only; omega) | (simp; omega) | (simp; done) | (simp [size_ext_eq]; omega)) _)))).mono ?_)); rintro e w' ⟨rfl, u, rfl⟩) | (go_at_call 71; (with_reducible refine (H2.out _ (by repeat (first | (with_reducible exact Kp.refl _) | (with_reducible assumption) | (with_reducible apply Kp.ext) | (with_reducible apply Kp.alloc) | (with_reducible apply Kp.drew) | (with_reducible apply Kp.drewN) | (with_reducible refine Kp.setCell ?_ (by first | (dsimp only; omega) | (simp; omega) | (simp; done) | (simp [size_ext_eq]; omega)) _)))).mono ?_); rintro e w' ⟨_, h2⟩; obtain ⟨a', hea, rfl, u', rfl⟩ := h2 rfl; have HE := Lib.hid hea; clear h2 hea))
      refine bodyPost_ret (v := .tuple #[.slice none 0 0, .int .i64 0, .iface 191 (.pointer (some a'))]) (by simp [results, Tryz.results88, go_sem]) rfl ?_
      exact ⟨nofun, fun _ => ⟨a', HE.out.kp (by repeat (first | (with_reducible exact Kp.refl _) | (with_reducible assumption) | (with_reducible apply Kp.ext) | (with_reducible apply Kp.alloc) | (with_reducible apply Kp.drew) | (with_reducible apply Kp.drewN) | (with_reducible refine Kp.setCell ?_ (by first | (dsimp only; omega) | (simp; omega) | (simp; done) | (simp [size_ext_eq]; omega)) _))), Ret.mk rfl (by repeat (first | (with_reducible exact Kp.refl _) | (with_reducible assumption) | (with_reducible apply Kp.ext) | (with_reducible apply Kp.alloc) | (with_reducible apply Kp.drew) | (with_reducible apply Kp.drewN) | (with_reducible refine Kp.setCell ?_ (by first | (dsimp only; omega) | (simp; omega) | (simp; done) | (simp [size_ext_eq]; omega)) _)))⟩⟩
    · go_enter Tryz.func88, Tryz.ntmps88
      go_wp2_with (first | (go_at_call 66; (first | (with_reducible refine (Ret.at_ext (H.out _ (by repeat (first | (with_reducible exact Kp.refl _) | (with_reducible assumption) | (with_reducible apply Kp.ext) | (with_reducible apply Kp.alloc) | (with_reducible apply Kp.drew) | (with_reducible apply Kp.drewN) | (with_reducible refine Kp.setCell ?_ (by first | (dsimp only; omega) | (simp; omega) | (simp; done) | (simp [size_ext_eq]; omega)) _))))).mono ?_) | (with_reducible refine (H.out _ (by repeat (first | (with_reducible exact Kp.refl _) | (with_reducible assumption) | (with_reducible apply Kp.ext) | (with_reducible apply Kp.alloc) | (with_reducible apply Kp.drew) | (with_reducible apply Kp.drewN) | (with_reducible refine Kp.setCell ?_ (by first | (dsimp only; omega) | (simp; omega) | (simp; done) | (simp [size_ext_eq]; omega)) _)))).mono ?_)); rintro e w' ⟨rfl, u, rfl⟩) | (go_at_call 71; (with_reducible refine (H2.out _ (by repeat (first | (with_reducible exact Kp.refl _) | (with_reducible assumption) | (with_reducible apply Kp.ext) | (with_reducible apply Kp.alloc) | (with_reducible apply Kp.drew) | (with_reducible apply Kp.drewN) | (with_reducible refine Kp.setCell ?_ (by first | (dsimp only; omega) | (simp; omega) | (simp; done) | (simp [size_ext_eq]; omega)) _)))).mono ?_); rintro e w' ⟨h1, _⟩; obtain ⟨v, u', rfl, rfl, hpb⟩ := h1 rfl; have Hpb := Lib.hid hpb; clear h1 hpb))
      refine bodyPost_ret (v := .tuple #[v, .int .i64 0, .nilIface]) (by simp [results, Tryz.results88, go_sem]) rfl ?_
      exact ⟨fun _ => ⟨_, _, rfl, ext_of (show Kp w _ from (by repeat (first | (with_reducible exact Kp.refl _) | (with_reducible assumption) | (with_reducible apply Kp.ext) | (with_reducible apply Kp.alloc) | (with_reducible apply Kp.drew) | (with_reducible apply Kp.drewN) | (with_reducible refine Kp.setCell ?_ (by first | (dsimp only; omega) | (simp; omega) | (simp; done) | (simp [size_ext_eq]; omega)) _)))), RowB.mono Hpb.out (by simp [size_ext_eq]) (Nat.le_refl _)⟩, nofun⟩

end Go.Proofs.YtobdohhabgnjiaaGreatDoor

set_option linter.all false
namespace Go.Proofs.YtobdohhabgnjiaaGreatDoor
open PubFl Go.RowKit

attribute [local go_sem] cell_ext frozen_ext ext_setCell cell_store size_ext_eq lt_p0 lt_p1 lt_p2 lt_p3 lt_p4 lt_p5 lt_p6 lt_p7 lt_p8 lt_p9 lt_p10 lt_p11 lt_p12 lt_p13 lt_p14 lt_p15 lt_p16 lt_p17 lt_p18 lt_p19 lt_p20 lt_p21 lt_p22 lt_p23 lt_p24 lt_p25 lt_p26 lt_p27 lt_p28 lt_p29 lt_p30 lt_p31 lt_p32 lt_q1 lt_q2 lt_q3 lt_q4 lt_q5 lt_q6 lt_q7 lt_q8 lt_q9 lt_q10 lt_q11 lt_q12 lt_q13 lt_q14 lt_q15 lt_q16 lt_q17 lt_q18 lt_q19 lt_q20 lt_q21 lt_q22 lt_q23 lt_q24 lt_q25 lt_q26 lt_q27 lt_q28 lt_q29 lt_q30 lt_q31 lt_q32 run_fop run_store_float
attribute [local go_sem high] cmp_eql cmp_neq cmp_lss cmp_leq cmp_gtr cmp_geq

theorem infoPgd : (Tryz.prog.info? 93).map (fun i => (i.zero, i.size, i.bytes)) = some (some (.slice none 0 0), 1, 24) := by kernel_rfl

/-- how long a polygon's rings are in a form -/
def ringsLen (ls : List (List (Nat × Nat))) : Nat → Nat
  | 0 => 9
  | k + 1 => ringsLen ls k + (4 + 16 * (ls.getD k []).length)
theorem ringsLen_mono (ls : List (List (Nat × Nat))) {k : Nat} : ∀ {n : Nat}, k ≤ n → ringsLen ls k ≤ ringsLen ls n
  | 0, h => by
    obtain rfl : k = 0 := by omega
    exact Nat.le_refl _
  | n + 1, h => by
    by_cases c : k = n + 1
    · subst c; exact Nat.le_refl _
    · have := ringsLen_mono ls (k := k) (n := n) (by omega)
      show _ ≤ ringsLen ls n + (4 + 16 * (ls.getD n []).length)
      omega
theorem ringsLen_le {ls : List (List (Nat × Nat))} (h : ∀ l ∈ ls, l.length ≤ 300) : ∀ (k : Nat), ringsLen ls k ≤ 9 + 4804 * k
  | 0 => Nat.le_refl _
  | k + 1 => by
    have := ringsLen_le h k
    have h2 := getD_le h k
    show ringsLen ls k + (4 + 16 * (ls.getD k []).length) ≤ _
    omega

set_option maxRecDepth 20000 in
set_option maxHeartbeats 4000000 in
theorem unMPoly_l (b big : Bool) (qs : List Sh) (hn : qs.length ≤ 40) (hns : ∀ i, i < qs.length → (qs.getD i dsh).lists.length ≤ 40 ∧ ∀ l ∈ (qs.getD i dsh).lists, l.length ≤ 300) (f : Nat → List Nat) (hf : ∀ i, i < qs.length → (f i).length = ringsLen (qs.getD i dsh).lists (qs.getD i dsh).lists.length) (r bs : List Nat)
    (hP : PreB b (num32 qs.length big ++ sufB f 0 qs.length) r bs) (a : Option Addr) (n c : Nat) (hnl : n = bs.length) (hnc : n ≤ c) (hm : n ≤ 1000000000000) (w : World) (hB : BytesO w a bs) (hG : GlE w 3)
    (HS : ∀ (k : Nat), k < qs.length → ∀ (b' : Bool) (r' r2 : List Nat) (a : Option Addr) (n c : Nat) (w' : World), PreB b' (f k) r' r2 → n = r2.length → n ≤ c → n ≤ 1000000000000 → Kp w w' → BytesO w' a r2 → Calls Tryz.prog 88 #[.slice a n c] w' (RetSc b' w' (fun lo hi w v => ListsB (qs.getD k dsh).lists lo hi w v) (.slice none 0 0) 0)) :
    Calls Tryz.prog 72 #[.int .i64 (ordI big), .slice a n c] w (RetUn b w (fun lo hi w v => RowB (PolyE qs) lo hi w v qs.length) (.slice none 0 0)) := by
  rcases hP.step with ⟨r0, rfl, hP2⟩ | ⟨rfl, _, hl⟩
  case inr =>
    obtain ⟨hlt, e, he, hea⟩ := hG; have HE := Lib.hid hea; clear hea
    rw [num32_length, ← hnl] at hl
    have i1 : ((n : Int) < 4) := by omega
    generalize ordI big = o at *
    clear HS hP hB hnl hnc hm hf hns
    go_enter Tryz.func72, Tryz.ntmps72
    go_wp2_with fail
    first | (with_reducible refine wp_region_ext_lit2 ?_ ?_ ?_) | refine wp_region_ext_lit ?_ ?_ ?_
    kernel_rfl
    kernel_rfl
    repeat (go_big_quiet_step (fail))
    refine wpQuiet_nil ?_
    rintro _ ⟨u, rfl⟩
    go_wp2_with fail
    refine bodyPost_ret (v := .tuple #[.slice none 0 0, .iface 191 (.pointer (some e))]) (by simp [results, Tryz.results72, go_sem]) rfl ?_
    exact ⟨nofun, fun _ => ⟨e, HE.out.kp (by repeat (first | (with_reducible exact Kp.refl _) | (with_reducible assumption) | (with_reducible apply Kp.ext) | (with_reducible apply Kp.alloc) | (with_reducible apply Kp.drew) | (with_reducible apply Kp.drewN) | (with_reducible refine Kp.setCell ?_ (by first | (dsimp only; omega) | (simp; omega) | (simp; done) | (simp [size_ext_eq]; omega)) _))), Ret.mk rfl (by repeat (first | (with_reducible exact Kp.refl _) | (with_reducible assumption) | (with_reducible apply Kp.ext) | (with_reducible apply Kp.alloc) | (with_reducible apply Kp.drew) | (with_reducible apply Kp.drewN) | (with_reducible refine Kp.setCell ?_ (by first | (dsimp only; omega) | (simp; omega) | (simp; done) | (simp [size_ext_eq]; omega)) _)))⟩⟩
  case inl =>
  obtain ⟨i0, hi, hz0, hz1, hz2⟩ := info_parts infoPgd
  have h4 : 4 ≤ n := by rw [hnl, List.length_append, num32_length]; omega
  obtain ⟨g, off, rfl, hg, hb⟩ := hB.at (by rw [← hnl]; omega)
  have HU := Lib.hid (fun w' (k' : Kp w w') => un32_c qs.length (by omega) big g off n c (by omega) w' (Nat.lt_of_lt_of_le hg k'.size) (hb.front.kp hg k'))
  have hsl := BytesO.sl (c := c) (k := 4) hb (num32_length _ _).symm hg (by omega)
  have hmk : ∀ w, (Instr.makeSlice 99 (.int .i64 0) (.int .u32 (qs.length : Int))).run Tryz.prog w = .ok (.slice (some ⟨w.heap.size, 0, none⟩) 0 qs.length) (w.alloc (.cells (madeCells #[.slice none 0 0] (qs.length * 1)) 93)) := fun w => by
    have := run_make (P := Tryz.prog) w 99 93 i0 (.slice none 0 0) Tryz.underlying99 hi hz0 .i64 .u32 0 (qs.length : Int) (by omega) (by omega) (by rw [hz2]; omega) (by omega)
    rw [this, hz1]
    rfl
  have hn4 : n - 4 = r0.length := by rw [hnl, List.length_append, num32_length]; omega
  have k1 : ((n : Int) < 4) = False := eq_false (by omega)
  have k2 : (4 : Int) ≤ (n : Int) := by omega
  have k6 : ((100 : Int) < (qs.length : Int)) = False := eq_false (by omega)
  obtain ⟨N, hN⟩ : ∃ N, qs.length = N := ⟨_, rfl⟩
  rw [hN] at hn HU hmk k6 hP2 HS hf hns
  have Hf := Lib.hid hf
  have HN := Lib.hid hN
  have HP2 := Lib.hid hP2
  have Hsl := Lib.hid hsl
  have Hn4 := Lib.hid hn4
  have Hns := Lib.hid hns
  have HSh := Lib.hid HS
  generalize ordI big = o at *
  clear hP hP2 hB hb hsl hn4 hf hnl HS hN hns
  go_enter Tryz.func72, Tryz.ntmps72
  go_upto_region 4 with (go_at_call 84; (first | (with_reducible refine (Ret.at_ext (HU.out _ (by repeat (first | (with_reducible exact Kp.refl _) | (with_reducible assumption) | (with_reducible apply Kp.ext) | (with_reducible apply Kp.alloc) | (with_reducible apply Kp.drew) | (with_reducible apply Kp.drewN) | (with_reducible refine Kp.setCell ?_ (by first | (dsimp only; omega) | (simp; omega) | (simp; done) | (simp [size_ext_eq]; omega)) _))))).mono ?_) | (with_reducible refine (HU.out _ (by repeat (first | (with_reducible exact Kp.refl _) | (with_reducible assumption) | (with_reducible apply Kp.ext) | (with_reducible apply Kp.alloc) | (with_reducible apply Kp.drew) | (with_reducible apply Kp.drewN) | (with_reducible refine Kp.setCell ?_ (by first | (dsimp only; omega) | (simp; omega) | (simp; done) | (simp [size_ext_eq]; omega)) _)))).mono ?_)); rintro e w' ⟨rfl, u, rfl⟩)
  go_cut [1] (fun s1 wx => ∃ a' : Option Addr, s1 = .slice a' (n - 4) (c - 4) ∧ BytesO w a' r0 ∧ Kp w wx)
  case first =>
    go_wp2_with fail
    all_goals go_meet
    all_goals
      refine ⟨if c = 4 then some ⟨g, off, none⟩ else some ⟨g, off + 4, none⟩, ?_, Hsl.out, (by repeat (first | (with_reducible exact Kp.refl _) | (with_reducible assumption) | (with_reducible apply Kp.ext) | (with_reducible apply Kp.alloc) | (with_reducible apply Kp.drew) | (with_reducible apply Kp.drewN) | (with_reducible refine Kp.setCell ?_ (by first | (dsimp only; omega) | (simp; omega) | (simp; done) | (simp [size_ext_eq]; omega)) _)))⟩
      by_cases hc : c = 4 <;> first | (rw [if_pos hc, hc]; done) | (rw [if_neg hc]; done) | (exact absurd hc (by assumption)) | (exact absurd (by assumption) hc)
  case rest =>
  obtain ⟨a0, rfl, hbo0, hkc⟩ := hcut
  have Hbo0 := Lib.hid hbo0
  clear Hsl hbo0
  go_wp2_with fail
  go_loopw [1, 8, 9] (fun s1 s8 s9 wr => ∃ (k n' c' : Nat) (a' : Option Addr) (r' : List Nat) (xs : List Value), k ≤ N ∧ s9 = .int .i64 k ∧ s1 = .slice a' n' c' ∧ n' = r'.length ∧ n' ≤ c' ∧ n' ≤ 1000000000000 ∧ BytesO w a' r' ∧ PreB b (sufB f k (N - k)) r r' ∧ Kp w wr ∧ RowsP (PolyE qs) 93 w.heap.size wr s8 k xs) (fun _ _ s9 _ => N - (intOf s9).toNat)
  case atStart =>
    have hrow : RowsP (PolyE qs) 93 w.heap.size (wc.alloc (.cells (madeCells #[.slice none 0 0] (N * 1)) 93)) (.slice (some ⟨wc.heap.size, 0, none⟩) 0 N) 0 [] := ⟨World.ownsRow_made (base := w.heap.size) (e := 93) (size := 1) wc (madeCells #[.slice none 0 0] (N * 1)) N hkc.size (by unfold maxLen; omega) (by simp [size_madeCells]), ⟨_, rfl⟩, fun i hi => by omega⟩
    exact ⟨0, n - 4, c - 4, _, r0, [], Nat.zero_le _, rfl, rfl, Hn4.out, by omega, by omega, Hbo0.out, by rw [Nat.sub_zero]; exact HP2.out, (by repeat (first | (with_reducible exact Kp.refl _) | (with_reducible assumption) | (with_reducible apply Kp.ext) | (with_reducible apply Kp.alloc) | (with_reducible apply Kp.drew) | (with_reducible apply Kp.drewN) | (with_reducible refine Kp.setCell ?_ (by first | (dsimp only; omega) | (simp; omega) | (simp; done) | (simp [size_ext_eq]; omega)) _))), by simpa using hrow⟩
  case round =>
    obtain ⟨k, n', c', a', r', xs, hkn, rfl, rfl, hnr, hnc', hnm, hbo, hpre, hkp, hrow⟩ := hrel
    by_cases hlt : k < N
    · rw [show N - k = (N - (k + 1)) + 1 by omega] at hpre
      have Hrow := Lib.hid hrow
      have hown := hrow.own
      have hsz := hkp.size
      have Hkp := Lib.hid hkp
      rcases PreB.step (F1 := f k) (F2 := sufB f (k + 1) (N - (k + 1))) hpre with ⟨r2, rfl, hpre2⟩ | ⟨rfl, hcut, _⟩
      · obtain ⟨hM40, hM300⟩ := Hns.out k hlt
        have hfl := Hf.out k hlt
        obtain ⟨ls, hls⟩ : ∃ ls, (qs.getD k dsh).lists = ls := ⟨_, rfl⟩
        have hs1 := HSh.out k hlt
        rw [hls] at hM40 hM300 hfl hs1
        have HS1 := Lib.hid hs1
        have Hls := Lib.hid hls
        clear hs1 hls
        obtain ⟨M, hM⟩ : ∃ M, ls.length = M := ⟨_, rfl⟩
        have hLLb := ringsLen_le hM300 ls.length
        obtain ⟨LL, hLL⟩ : ∃ LL, ringsLen ls ls.length = LL := ⟨_, rfl⟩
        rw [hLL] at hfl hLLb
        rw [hM] at hLL hM40 hLLb
        have HM := Lib.hid hM
        have HLL := Lib.hid hLL
        have HML := Lib.hid (show ringsLen ls M ≤ 1000000 by rw [hLL]; omega)
        have hLL6 : LL ≤ 1000000 := by omega
        clear hM300 hM hLL hLLb
        have hrl : n' = LL + r2.length := by rw [hnr, List.length_append, hfl]
        obtain ⟨g', off', rfl, hg'0, hb'⟩ := hbo.at (by
          have : 9 ≤ LL := by
            have := ringsLen_mono ls (k := 0) (n := M) (Nat.zero_le _)
            rw [HLL.out] at this
            exact this
          rw [List.length_append]; omega)
        have hg' : g' < w.heap.size := hg'0
        clear hg'0
        by_cases hc : c' = LL
        · have hc := hc.symm
          subst hc
          obtain rfl : r2 = [] := List.eq_nil_of_length_eq_zero (by omega)
          have hn2 : LL = n' := by simpa using hrl.symm
          subst hn2
          have HI := Lib.hid (fun w' (k' : Kp wr w') => HS1.out true _ (f k ++ _) (some ⟨g', off', none⟩) LL LL w' (PreB.of _ _) hnr (Nat.le_refl _) hnm (hkp.trans k') (hbo.kp (hkp.trans k')))
          have Hp2 := Lib.hid hpre2
          have k20 : (0 : Int) ≤ (LL : Int) := by omega
          clear hnr hbo hpre hpre2 hfl hrl hb' hrow
          go_wp2_with (go_at_call 88; (with_reducible refine (HI.out _ (by repeat (first | (with_reducible exact Kp.refl _) | (with_reducible assumption) | (with_reducible apply Kp.ext) | (with_reducible apply Kp.alloc) | (with_reducible apply Kp.drew) | (with_reducible apply Kp.drewN) | (with_reducible refine Kp.setCell ?_ (by first | (dsimp only; omega) | (simp; omega) | (simp; done) | (simp [size_ext_eq]; omega)) _)))).mono ?_); rintro e w1 ⟨h1, _⟩; obtain ⟨v, u', rfl, rfl, hpb⟩ := h1 rfl; clear h1; obtain ⟨g2, cap2, hv2, _, _, hg2, _, _, hel⟩ := id hpb; rw [HM.out] at hv2; subst hv2; have Hpb := Lib.hid hpb; have Hel := Lib.hid hel; clear hpb hel)
          have hk1 := Lib.hid (show Kp wr (ext wr u') from (by repeat (first | (with_reducible exact Kp.refl _) | (with_reducible assumption) | (with_reducible apply Kp.ext) | (with_reducible apply Kp.alloc) | (with_reducible apply Kp.drew) | (with_reducible apply Kp.drewN) | (with_reducible refine Kp.setCell ?_ (by first | (dsimp only; omega) | (simp; omega) | (simp; done) | (simp [size_ext_eq]; omega)) _))))
          generalize ext wr u' = W1 at *
          go_loopw [13, 47] (fun s13 s47 wq => ∃ j : Nat, j ≤ M ∧ s13 = .int .i64 (ringsLen ls j) ∧ s47 = .int .i64 j ∧ wq = W1) (fun _ s47 _ => M - (intOf s47).toNat)
          case atStart => exact ⟨0, Nat.zero_le _, rfl, rfl, rfl⟩
          case round =>
            obtain ⟨j, hjM, rfl, rfl, hW⟩ := hrel
            have hW := hW.symm
            subst hW
            by_cases hjlt : j < M
            · obtain ⟨x, lo, hi', hc, hx, _⟩ := Hel.out j (by rw [HM.out]; exact hjlt)
              obtain ⟨g3, c3, hv3, _⟩ := hx
              subst hv3
              have hst : ringsLen ls (j + 1) = ringsLen ls j + (4 + 16 * (ls.getD j []).length) := rfl
              have hle := ringsLen_mono ls (k := j + 1) (n := M) (by omega)
              rw [hst] at hle
              obtain ⟨R, hR⟩ : ∃ R, (ls.getD j []).length = R := ⟨_, rfl⟩
              rw [hR] at hst hle hc
              have Hst := Lib.hid hst
              have hle2 : ringsLen ls j + (4 + 16 * R) ≤ 1000000 := by have := HML.out; omega
              clear hst hle hR
              generalize ringsLen ls j = Z at *
              go_wp2_with fail
              go_roundw
              case rel => exact ⟨j + 1, by omega, by rw [Hst.out]; go_num, by go_num, trivial⟩
              case measure => simp [intOf]; omega
            · obtain rfl : j = M := by omega
              have hrl2 : ringsLen ls j = LL := HLL.out
              rw [hrl2]
              clear Hel
              go_wp2_with (at_builtin; (refine wpList_append_own2 _ rfl (.tmp 61) (.tmp 63) 99 rfl w.heap.size 93 i0 (.slice none 0 0) 1 24 Tryz.underlying99 hi hz0 hz1 hz2 rfl (by decide) _ k _ rfl ((own_kp hown hk1.out).alloc _) _ 1 1 [.slice (some ⟨g2, 0, none⟩) j cap2] rfl rfl (lit1 rfl) ?c2 ?c3 ?c4 ?c5 ?_))
              case c2 => first | rfl | exact fun u hu => by simp at hu; subst hu; rfl
              case c3 => unfold maxLen; omega
              case c4 => omega
              case c5 => have := hk1.out.size; simp [size_ext_eq]; omega
              intro v' w1 hown1 hgrow1 hblk
              have hkW : Kp w W1 := hkp.trans hk1.out
              have hk2 : Kp w w1 := Below.grown (hkW.alloc _) hgrow1 (by have := hk1.out.size; simp; omega) (fun q hq => (hown.lt q hq).1)
              have HR := Lib.hid (RowsP.step (keep_poly qs) Hrow.out (hk1.out.alloc _) ((keep_poly qs) k _ _ _ _ _ (Agree.of_kp ((Kp.refl W1).alloc _) (Nat.le_refl _)) (by simp) (show PolyE qs k _ _ _ _ from by unfold PolyE; rw [Hls.out]; exact Hpb.out)) hsz (Nat.le_refl _) (by simp) hown1 hgrow1 (by simpa using hblk))
              clear hown1 hgrow1 hblk hown
              go_wp2_with fail
              go_roundw
              case rel => exact ⟨k + 1, 0, 0, some ⟨g', off', none⟩, [], _, by omega, by go_num, rfl, rfl, by omega, by omega, .inl rfl, Hp2.out, hk2, HR.out⟩
              case measure => simp [intOf]; omega
        · skip
          have hsl2 := BytesO.sl (c := c') (k := LL) hb' hfl.symm hg' (by rw [← hnr]; exact hnc')
          rw [if_neg hc] at hsl2
          have Hsl2 := Lib.hid hsl2
          have Hr2 := Lib.hid (show n' - LL = r2.length by omega)
          have HI := Lib.hid (fun w' (k' : Kp wr w') => HS1.out true _ (f k ++ _) (some ⟨g', off', none⟩) n' c' w' (PreB.of _ _) hnr hnc' hnm (hkp.trans k') (hbo.kp (hkp.trans k')))
          have Hp2 := Lib.hid hpre2
          have l1 : (LL : Int) ≤ (n' : Int) := by omega
          have l2 : (c' = LL) = False := eq_false hc
          have l3 : (LL = c') = False := eq_false (fun e => hc e.symm)
          clear hsl2 hc
          clear hnr hbo hpre hpre2 hfl hrl hb' hrow
          go_wp2_with (go_at_call 88; (with_reducible refine (HI.out _ (by repeat (first | (with_reducible exact Kp.refl _) | (with_reducible assumption) | (with_reducible apply Kp.ext) | (with_reducible apply Kp.alloc) | (with_reducible apply Kp.drew) | (with_reducible apply Kp.drewN) | (with_reducible refine Kp.setCell ?_ (by first | (dsimp only; omega) | (simp; omega) | (simp; done) | (simp [size_ext_eq]; omega)) _)))).mono ?_); rintro e w1 ⟨h1, _⟩; obtain ⟨v, u', rfl, rfl, hpb⟩ := h1 rfl; clear h1; obtain ⟨g2, cap2, hv2, _, _, hg2, _, _, hel⟩ := id hpb; rw [HM.out] at hv2; subst hv2; have Hpb := Lib.hid hpb; have Hel := Lib.hid hel; clear hpb hel)
          have hk1 := Lib.hid (show Kp wr (ext wr u') from (by repeat (first | (with_reducible exact Kp.refl _) | (with_reducible assumption) | (with_reducible apply Kp.ext) | (with_reducible apply Kp.alloc) | (with_reducible apply Kp.drew) | (with_reducible apply Kp.drewN) | (with_reducible refine Kp.setCell ?_ (by first | (dsimp only; omega) | (simp; omega) | (simp; done) | (simp [size_ext_eq]; omega)) _))))
          generalize ext wr u' = W1 at *
          go_loopw [13, 47] (fun s13 s47 wq => ∃ j : Nat, j ≤ M ∧ s13 = .int .i64 (ringsLen ls j) ∧ s47 = .int .i64 j ∧ wq = W1) (fun _ s47 _ => M - (intOf s47).toNat)
          case atStart => exact ⟨0, Nat.zero_le _, rfl, rfl, rfl⟩
          case round =>
            obtain ⟨j, hjM, rfl, rfl, hW⟩ := hrel
            have hW := hW.symm
            subst hW
            by_cases hjlt : j < M
            · obtain ⟨x, lo, hi', hc, hx, _⟩ := Hel.out j (by rw [HM.out]; exact hjlt)
              obtain ⟨g3, c3, hv3, _⟩ := hx
              subst hv3
              have hst : ringsLen ls (j + 1) = ringsLen ls j + (4 + 16 * (ls.getD j []).length) := rfl
              have hle := ringsLen_mono ls (k := j + 1) (n := M) (by omega)
              rw [hst] at hle
              obtain ⟨R, hR⟩ : ∃ R, (ls.getD j []).length = R := ⟨_, rfl⟩
              rw [hR] at hst hle hc
              have Hst := Lib.hid hst
              have hle2 : ringsLen ls j + (4 + 16 * R) ≤ 1000000 := by have := HML.out; omega
              clear hst hle hR
              generalize ringsLen ls j = Z at *
              go_wp2_with fail
              go_roundw
              case rel => exact ⟨j + 1, by omega, by rw [Hst.out]; go_num, by go_num, trivial⟩
              case measure => simp [intOf]; omega
            · obtain rfl : j = M := by omega
              have hrl2 : ringsLen ls j = LL := HLL.out
              rw [hrl2]
              clear Hel
              go_wp2_with (at_builtin; (refine wpList_append_own2 _ rfl (.tmp 61) (.tmp 63) 99 rfl w.heap.size 93 i0 (.slice none 0 0) 1 24 Tryz.underlying99 hi hz0 hz1 hz2 rfl (by decide) _ k _ rfl ((own_kp hown hk1.out).alloc _) _ 1 1 [.slice (some ⟨g2, 0, none⟩) j cap2] rfl rfl (lit1 rfl) ?c2 ?c3 ?c4 ?c5 ?_))
              case c2 => first | rfl | exact fun u hu => by simp at hu; subst hu; rfl
              case c3 => unfold maxLen; omega
              case c4 => omega
              case c5 => have := hk1.out.size; simp [size_ext_eq]; omega
              intro v' w1 hown1 hgrow1 hblk
              have hkW : Kp w W1 := hkp.trans hk1.out
              have hk2 : Kp w w1 := Below.grown (hkW.alloc _) hgrow1 (by have := hk1.out.size; simp; omega) (fun q hq => (hown.lt q hq).1)
              have HR := Lib.hid (RowsP.step (keep_poly qs) Hrow.out (hk1.out.alloc _) ((keep_poly qs) k _ _ _ _ _ (Agree.of_kp ((Kp.refl W1).alloc _) (Nat.le_refl _)) (by simp) (show PolyE qs k _ _ _ _ from by unfold PolyE; rw [Hls.out]; exact Hpb.out)) hsz (Nat.le_refl _) (by simp) hown1 hgrow1 (by simpa using hblk))
              clear hown1 hgrow1 hblk hown
              go_wp2_with fail
              go_roundw
              case rel => exact ⟨k + 1, _, _, _, r2, _, by omega, by go_num, rfl, Hr2.out, by omega, by omega, Hsl2.out, Hp2.out, hk2, HR.out⟩
              case measure => simp [intOf]; omega
      · have HI := Lib.hid (fun w' (k' : Kp wr w') => HSh.out k hlt false [] r' a' n' c' w' hcut hnr hnc' hnm (hkp.trans k') (hbo.kp (hkp.trans k')))
        clear hnr hbo hpre hrow hcut hown
        go_wp2_with (go_at_call 88; (with_reducible refine (HI.out _ (by repeat (first | (with_reducible exact Kp.refl _) | (with_reducible assumption) | (with_reducible apply Kp.ext) | (with_reducible apply Kp.alloc) | (with_reducible apply Kp.drew) | (with_reducible apply Kp.drewN) | (with_reducible refine Kp.setCell ?_ (by first | (dsimp only; omega) | (simp; omega) | (simp; done) | (simp [size_ext_eq]; omega)) _)))).mono ?_); rintro e w1 ⟨_, h2⟩; obtain ⟨e', hea, rfl, u', rfl⟩ := h2 rfl; have HE := Lib.hid hea; clear h2 hea)
        refine bodyPost_ret (v := .tuple #[.slice none 0 0, .iface 191 (.pointer (some e'))]) (by simp [results, Tryz.results72, go_sem]) rfl ?_
        exact ⟨nofun, fun _ => ⟨e', HE.out.kp (by repeat (first | (with_reducible exact Kp.refl _) | (with_reducible assumption) | (with_reducible apply Kp.ext) | (with_reducible apply Kp.alloc) | (with_reducible apply Kp.drew) | (with_reducible apply Kp.drewN) | (with_reducible refine Kp.setCell ?_ (by first | (dsimp only; omega) | (simp; omega) | (simp; done) | (simp [size_ext_eq]; omega)) _))), Ret.mk rfl (by repeat (first | (with_reducible exact Kp.refl _) | (with_reducible assumption) | (with_reducible apply Kp.ext) | (with_reducible apply Kp.alloc) | (with_reducible apply Kp.drew) | (with_reducible apply Kp.drewN) | (with_reducible refine Kp.setCell ?_ (by first | (dsimp only; omega) | (simp; omega) | (simp; done) | (simp [size_ext_eq]; omega)) _)))⟩⟩
    · obtain rfl : k = N := by omega
      rw [Nat.sub_self] at hpre
      have hpre : PreB b [] r r' := hpre
      obtain ⟨rfl, rfl⟩ := hpre.nil
      have hr := hrow.done
      rw [← HN.out] at hr
      have Hr := Lib.hid hr
      clear hr hrow hnr hbo hpre
      go_wp2_with fail
      refine bodyPost_ret (v := .tuple #[u8, .nilIface]) (by simp [results, Tryz.results72, go_sem]) rfl ?_
      exact ⟨fun _ => ⟨_, _, rfl, ext_of hkp, Hr.out⟩, nofun⟩

end Go.Proofs.YtobdohhabgnjiaaGreatDoor

set_option linter.all false
namespace Go.Proofs.YtobdohhabgnjiaaGreatDoor
open PubFl Go.RowKit

attribute [local go_sem] cell_ext frozen_ext ext_setCell cell_store size_ext_eq lt_p0 lt_p1 lt_p2 lt_p3 lt_p4 lt_p5 lt_p6 lt_p7 lt_p8 lt_p9 lt_p10 lt_p11 lt_p12 lt_p13 lt_p14 lt_p15 lt_p16 lt_p17 lt_p18 lt_p19 lt_p20 lt_p21 lt_p22 lt_p23 lt_p24 lt_p25 lt_p26 lt_p27 lt_p28 lt_p29 lt_p30 lt_p31 lt_p32 lt_q1 lt_q2 lt_q3 lt_q4 lt_q5 lt_q6 lt_q7 lt_q8 lt_q9 lt_q10 lt_q11 lt_q12 lt_q13 lt_q14 lt_q15 lt_q16 lt_q17 lt_q18 lt_q19 lt_q20 lt_q21 lt_q22 lt_q23 lt_q24 lt_q25 lt_q26 lt_q27 lt_q28 lt_q29 lt_q30 lt_q31 lt_q32 run_fop run_store_float
attribute [local go_sem high] cmp_eql cmp_neq cmp_lss cmp_leq cmp_gtr cmp_geq

/-- the variables that hold errors -/
structure Gls (w : World) : Prop where
  eof : GlE w 9
  unx : GlE w 10
  notW : GlE w 3
  uns : GlE w 0
  dat : GlE w 1
  hdr : GlE w 5
  inc : GlE w 6
  dat2 : GlE w 2
  not2 : GlE w 4
  inc2 : GlE w 7
  uns2 : GlE w 8
theorem Gls.kp {w w' : World} (h : Gls w) (k : Kp w w') : Gls w' := ⟨h.1.kp k, h.2.kp k, h.3.kp k, h.4.kp k, h.5.kp k, h.6.kp k, h.7.kp k, h.8.kp k, h.9.kp k, h.10.kp k, h.11.kp k⟩

theorem eqErr {a b : Addr} {w : World} (ha : ErrA w a) (hb : ErrA w b) : Sem.run Tryz.prog (binOp BinOp.eql 55 (.iface 191 (.pointer (some a))) (.iface 191 (.pointer (some b)))) w = .ok (.bool (decide (a = b))) w := by
  obtain ⟨i, hi, hcmp⟩ := Option.map_eq_some_iff.1 (show (Tryz.prog.info? 191).map (·.comparable) = some true by kernel_rfl)
  obtain ⟨j, hj, hjs⟩ := Option.map_eq_some_iff.1 (show (Tryz.prog.info? 193).map (·.size) = some 1 by kernel_rfl)
  obtain ⟨_, ca, ta, hca⟩ := ha
  obtain ⟨_, cb, tb, hcb⟩ := hb
  by_cases h : a = b
  · subst h
    rw [decide_eq_true rfl]
    exact run_eql_iface_ptr_same w a Tryz.underlying55 Tryz.underlying191 hi hcmp hj
  · rw [decide_eq_false h]
    exact run_eql_iface_ptr_other w Tryz.underlying55 Tryz.underlying191 hi hcmp hj (by rw [hjs]; decide) h hca hcb
set_option maxRecDepth 20000 in
set_option maxHeartbeats 1000000 in
theorem mapErr_c (a : Addr) (w : World) (he : ErrA w a) (h : Gls w) : Calls Tryz.prog 41 #[.iface 191 (.pointer (some a))] w (RetErr w fun v => v) := by
  obtain ⟨_, _, ⟨l2, a2, h2, e2⟩, ⟨l3, a3, h3, e3⟩, ⟨l4, a4, h4, e4⟩, ⟨l7, a7, h7, e7⟩, ⟨l8, a8, h8, e8⟩, ⟨l5, a5, h5, e5⟩, ⟨l6, a6, h6, e6⟩, ⟨l9, a9, h9, e9⟩, ⟨l10, a10, h10, e10⟩⟩ := h
  have q2 := eqErr he e2
  have q3 := eqErr he e3
  have q4 := eqErr he e4
  have q7 := eqErr he e7
  have q8 := eqErr he e8
  have HE0 := Lib.hid he
  have HE5 := Lib.hid e5
  have HE6 := Lib.hid e6
  have HE9 := Lib.hid e9
  have HE10 := Lib.hid e10
  clear he e2 e3 e4 e5 e6 e7 e8 e9 e10
  go_enter Tryz.func41, Tryz.ntmps41
  go_wp2_with fail
  all_goals
    go_ret
    first | exact ⟨_, HE0.out, Ret.mk rfl (by repeat (first | (with_reducible exact Kp.refl _) | (with_reducible assumption) | (with_reducible apply Kp.ext) | (with_reducible apply Kp.alloc) | (with_reducible apply Kp.drew) | (with_reducible apply Kp.drewN) | (with_reducible refine Kp.setCell ?_ (by first | (dsimp only; omega) | (simp; omega) | (simp; done) | (simp [size_ext_eq]; omega)) _)))⟩ | exact ⟨_, HE5.out, Ret.mk rfl (by repeat (first | (with_reducible exact Kp.refl _) | (with_reducible assumption) | (with_reducible apply Kp.ext) | (with_reducible apply Kp.alloc) | (with_reducible apply Kp.drew) | (with_reducible apply Kp.drewN) | (with_reducible refine Kp.setCell ?_ (by first | (dsimp only; omega) | (simp; omega) | (simp; done) | (simp [size_ext_eq]; omega)) _)))⟩ | exact ⟨_, HE6.out, Ret.mk rfl (by repeat (first | (with_reducible exact Kp.refl _) | (with_reducible assumption) | (with_reducible apply Kp.ext) | (with_reducible apply Kp.alloc) | (with_reducible apply Kp.drew) | (with_reducible apply Kp.drewN) | (with_reducible refine Kp.setCell ?_ (by first | (dsimp only; omega) | (simp; omega) | (simp; done) | (simp [size_ext_eq]; omega)) _)))⟩ | exact ⟨_, HE9.out, Ret.mk rfl (by repeat (first | (with_reducible exact Kp.refl _) | (with_reducible assumption) | (with_reducible apply Kp.ext) | (with_reducible apply Kp.alloc) | (with_reducible apply Kp.drew) | (with_reducible apply Kp.drewN) | (with_reducible refine Kp.setCell ?_ (by first | (dsimp only; omega) | (simp; omega) | (simp; done) | (simp [size_ext_eq]; omega)) _)))⟩ | exact ⟨_, HE10.out, Ret.mk rfl (by repeat (first | (with_reducible exact Kp.refl _) | (with_reducible assumption) | (with_reducible apply Kp.ext) | (with_reducible apply Kp.alloc) | (with_reducible apply Kp.drew) | (with_reducible apply Kp.drewN) | (with_reducible refine Kp.setCell ?_ (by first | (dsimp only; omega) | (simp; omega) | (simp; done) | (simp [size_ext_eq]; omega)) _)))⟩

/-- Unmarshal, where the head is none -/
theorem un_err (v : Value) (w : World) (h : Calls Tryz.prog 66 #[v] w (RetErr w fun v => .tuple #[.int .i64 0, .int .u32 0, .int .i64 0, .slice none 0 0, v])) :
    Calls Tryz.prog 48 #[v] w (RetErr w fun v => .tuple #[.nilIface, .int .i64 0, v]) := by
  have H := Lib.hid h
  clear h
  go_enter Tryz.func48, Tryz.ntmps48
  go_wp2_with (go_at_call 66; (with_reducible refine (H.out).mono ?_); rintro e w' ⟨a, hea, rfl, u, rfl⟩; have HE := Lib.hid hea; clear hea)
  refine bodyPost_ret (v := .tuple #[.nilIface, .int .i64 0, .iface 191 (.pointer (some a))]) (by simp [results, Tryz.results48, go_sem]) rfl ?_
  exact ⟨a, HE.out.kp (by repeat (first | (with_reducible exact Kp.refl _) | (with_reducible assumption) | (with_reducible apply Kp.ext) | (with_reducible apply Kp.alloc) | (with_reducible apply Kp.drew) | (with_reducible apply Kp.drewN) | (with_reducible refine Kp.setCell ?_ (by first | (dsimp only; omega) | (simp; omega) | (simp; done) | (simp [size_ext_eq]; omega)) _))), Ret.mk rfl (by repeat (first | (with_reducible exact Kp.refl _) | (with_reducible assumption) | (with_reducible apply Kp.ext) | (with_reducible apply Kp.alloc) | (with_reducible apply Kp.drew) | (with_reducible apply Kp.drewN) | (with_reducible refine Kp.setCell ?_ (by first | (dsimp only; omega) | (simp; omega) | (simp; done) | (simp [size_ext_eq]; omega)) _)))⟩

set_option maxRecDepth 20000 in
set_option maxHeartbeats 1000000 in
theorem un_Point (b : Bool) (o s : Int) (v v2 : Value) (w : World) (G : Nat → Nat → World → Value → Prop) (hmono : ∀ lo lo' hi w v, lo' ≤ lo → G lo hi w v → G lo' hi w v)
    (hb : Calls Tryz.prog 66 #[v] w (Ret w (.tuple #[.int .i64 o, .int .u32 1, .int .i64 s, v2, .nilIface])))
    (hu : ∀ w', Kp w w' → Calls Tryz.prog 67 #[.int .i64 o, v2] w' (RetUn b w' G (.agg #[.float .f64 0, .float .f64 0]))) :
    Calls Tryz.prog 48 #[v] w (RetSc b w (fun lo hi w v => ∃ u, v = .iface 88 u ∧ G lo hi w u) .nilIface s) := by
  have H := Lib.hid hb
  have H2 := Lib.hid hu
  clear hb hu
  cases b
  · go_enter Tryz.func48, Tryz.ntmps48
    go_wp2_with (first | (go_at_call 66; (first | (with_reducible refine (Ret.at_ext (H.out)).mono ?_) | (with_reducible refine (H.out).mono ?_)); rintro e w' ⟨rfl, u, rfl⟩) | (go_at_call 67; (with_reducible refine (H2.out _ (by repeat (first | (with_reducible exact Kp.refl _) | (with_reducible assumption) | (with_reducible apply Kp.ext) | (with_reducible apply Kp.alloc) | (with_reducible apply Kp.drew) | (with_reducible apply Kp.drewN) | (with_reducible refine Kp.setCell ?_ (by first | (dsimp only; omega) | (simp; omega) | (simp; done) | (simp [size_ext_eq]; omega)) _)))).mono ?_); rintro e w' ⟨_, h2⟩; obtain ⟨a', hea, rfl, u', rfl⟩ := h2 rfl; have HE := Lib.hid hea; clear h2 hea))
    refine bodyPost_ret (v := .tuple #[.nilIface, .int .i64 0, .iface 191 (.pointer (some a'))]) (by simp [results, Tryz.results48, go_sem]) rfl ?_
    exact ⟨nofun, fun _ => ⟨a', HE.out.kp (by repeat (first | (with_reducible exact Kp.refl _) | (with_reducible assumption) | (with_reducible apply Kp.ext) | (with_reducible apply Kp.alloc) | (with_reducible apply Kp.drew) | (with_reducible apply Kp.drewN) | (with_reducible refine Kp.setCell ?_ (by first | (dsimp only; omega) | (simp; omega) | (simp; done) | (simp [size_ext_eq]; omega)) _))), Ret.mk rfl (by repeat (first | (with_reducible exact Kp.refl _) | (with_reducible assumption) | (with_reducible apply Kp.ext) | (with_reducible apply Kp.alloc) | (with_reducible apply Kp.drew) | (with_reducible apply Kp.drewN) | (with_reducible refine Kp.setCell ?_ (by first | (dsimp only; omega) | (simp; omega) | (simp; done) | (simp [size_ext_eq]; omega)) _)))⟩⟩
  · go_enter Tryz.func48, Tryz.ntmps48
    go_wp2_with (first | (go_at_call 66; (first | (with_reducible refine (Ret.at_ext (H.out)).mono ?_) | (with_reducible refine (H.out).mono ?_)); rintro e w' ⟨rfl, u, rfl⟩) | (go_at_call 67; (with_reducible refine (H2.out _ (by repeat (first | (with_reducible exact Kp.refl _) | (with_reducible assumption) | (with_reducible apply Kp.ext) | (with_reducible apply Kp.alloc) | (with_reducible apply Kp.drew) | (with_reducible apply Kp.drewN) | (with_reducible refine Kp.setCell ?_ (by first | (dsimp only; omega) | (simp; omega) | (simp; done) | (simp [size_ext_eq]; omega)) _)))).mono ?_); rintro e w' ⟨h1, _⟩; obtain ⟨v', u', rfl, rfl, hpb⟩ := h1 rfl; have Hpb := Lib.hid hpb; clear h1 hpb))
    refine bodyPost_ret (v := .tuple #[.iface 88 v', .int .i64 s, .nilIface]) (by simp [results, Tryz.results48, go_sem]) rfl ?_
    exact ⟨fun _ => ⟨_, _, rfl, ext_of (show Kp w _ from (by repeat (first | (with_reducible exact Kp.refl _) | (with_reducible assumption) | (with_reducible apply Kp.ext) | (with_reducible apply Kp.alloc) | (with_reducible apply Kp.drew) | (with_reducible apply Kp.drewN) | (with_reducible refine Kp.setCell ?_ (by first | (dsimp only; omega) | (simp; omega) | (simp; done) | (simp [size_ext_eq]; omega)) _)))), v', rfl, hmono _ _ _ _ _ (by simp [size_ext_eq]) Hpb.out⟩, nofun⟩

set_option maxRecDepth 20000 in
set_option maxHeartbeats 1000000 in
theorem un_MultiPoint (b : Bool) (o s : Int) (v v2 : Value) (w : World) (G : Nat → Nat → World → Value → Prop) (hmono : ∀ lo lo' hi w v, lo' ≤ lo → G lo hi w v → G lo' hi w v)
    (hb : Calls Tryz.prog 66 #[v] w (Ret w (.tuple #[.int .i64 o, .int .u32 4, .int .i64 s, v2, .nilIface])))
    (hu : ∀ w', Kp w w' → Calls Tryz.prog 68 #[.int .i64 o, v2] w' (RetUn b w' G (.slice none 0 0))) :
    Calls Tryz.prog 48 #[v] w (RetSc b w (fun lo hi w v => ∃ u, v = .iface 95 u ∧ G lo hi w u) .nilIface s) := by
  have H := Lib.hid hb
  have H2 := Lib.hid hu
  clear hb hu
  cases b
  · go_enter Tryz.func48, Tryz.ntmps48
    go_wp2_with (first | (go_at_call 66; (first | (with_reducible refine (Ret.at_ext (H.out)).mono ?_) | (with_reducible refine (H.out).mono ?_)); rintro e w' ⟨rfl, u, rfl⟩) | (go_at_call 68; (with_reducible refine (H2.out _ (by repeat (first | (with_reducible exact Kp.refl _) | (with_reducible assumption) | (with_reducible apply Kp.ext) | (with_reducible apply Kp.alloc) | (with_reducible apply Kp.drew) | (with_reducible apply Kp.drewN) | (with_reducible refine Kp.setCell ?_ (by first | (dsimp only; omega) | (simp; omega) | (simp; done) | (simp [size_ext_eq]; omega)) _)))).mono ?_); rintro e w' ⟨_, h2⟩; obtain ⟨a', hea, rfl, u', rfl⟩ := h2 rfl; have HE := Lib.hid hea; clear h2 hea))
    refine bodyPost_ret (v := .tuple #[.nilIface, .int .i64 0, .iface 191 (.pointer (some a'))]) (by simp [results, Tryz.results48, go_sem]) rfl ?_
    exact ⟨nofun, fun _ => ⟨a', HE.out.kp (by repeat (first | (with_reducible exact Kp.refl _) | (with_reducible assumption) | (with_reducible apply Kp.ext) | (with_reducible apply Kp.alloc) | (with_reducible apply Kp.drew) | (with_reducible apply Kp.drewN) | (with_reducible refine Kp.setCell ?_ (by first | (dsimp only; omega) | (simp; omega) | (simp; done) | (simp [size_ext_eq]; omega)) _))), Ret.mk rfl (by repeat (first | (with_reducible exact Kp.refl _) | (with_reducible assumption) | (with_reducible apply Kp.ext) | (with_reducible apply Kp.alloc) | (with_reducible apply Kp.drew) | (with_reducible apply Kp.drewN) | (with_reducible refine Kp.setCell ?_ (by first | (dsimp only; omega) | (simp; omega) | (simp; done) | (simp [size_ext_eq]; omega)) _)))⟩⟩
  · go_enter Tryz.func48, Tryz.ntmps48
    go_wp2_with (first | (go_at_call 66; (first | (with_reducible refine (Ret.at_ext (H.out)).mono ?_) | (with_reducible refine (H.out).mono ?_)); rintro e w' ⟨rfl, u, rfl⟩) | (go_at_call 68; (with_reducible refine (H2.out _ (by repeat (first | (with_reducible exact Kp.refl _) | (with_reducible assumption) | (with_reducible apply Kp.ext) | (with_reducible apply Kp.alloc) | (with_reducible apply Kp.drew) | (with_reducible apply Kp.drewN) | (with_reducible refine Kp.setCell ?_ (by first | (dsimp only; omega) | (simp; omega) | (simp; done) | (simp [size_ext_eq]; omega)) _)))).mono ?_); rintro e w' ⟨h1, _⟩; obtain ⟨v', u', rfl, rfl, hpb⟩ := h1 rfl; have Hpb := Lib.hid hpb; clear h1 hpb))
    refine bodyPost_ret (v := .tuple #[.iface 95 v', .int .i64 s, .nilIface]) (by simp [results, Tryz.results48, go_sem]) rfl ?_
    exact ⟨fun _ => ⟨_, _, rfl, ext_of (show Kp w _ from (by repeat (first | (with_reducible exact Kp.refl _) | (with_reducible assumption) | (with_reducible apply Kp.ext) | (with_reducible apply Kp.alloc) | (with_reducible apply Kp.drew) | (with_reducible apply Kp.drewN) | (with_reducible refine Kp.setCell ?_ (by first | (dsimp only; omega) | (simp; omega) | (simp; done) | (simp [size_ext_eq]; omega)) _)))), v', rfl, hmono _ _ _ _ _ (by simp [size_ext_eq]) Hpb.out⟩, nofun⟩

set_option maxRecDepth 20000 in
set_option maxHeartbeats 1000000 in
theorem un_LineString (b : Bool) (o s : Int) (v v2 : Value) (w : World) (G : Nat → Nat → World → Value → Prop) (hmono : ∀ lo lo' hi w v, lo' ≤ lo → G lo hi w v → G lo' hi w v)
    (hb : Calls Tryz.prog 66 #[v] w (Ret w (.tuple #[.int .i64 o, .int .u32 2, .int .i64 s, v2, .nilIface])))
    (hu : ∀ w', Kp w w' → Calls Tryz.prog 69 #[.int .i64 o, v2] w' (RetUn b w' G (.slice none 0 0))) :
    Calls Tryz.prog 48 #[v] w (RetSc b w (fun lo hi w v => ∃ u, v = .iface 91 u ∧ G lo hi w u) .nilIface s) := by
  have H := Lib.hid hb
  have H2 := Lib.hid hu
  clear hb hu
  cases b
  · go_enter Tryz.func48, Tryz.ntmps48
    go_wp2_with (first | (go_at_call 66; (first | (with_reducible refine (Ret.at_ext (H.out)).mono ?_) | (with_reducible refine (H.out).mono ?_)); rintro e w' ⟨rfl, u, rfl⟩) | (go_at_call 69; (with_reducible refine (H2.out _ (by repeat (first | (with_reducible exact Kp.refl _) | (with_reducible assumption) | (with_reducible apply Kp.ext) | (with_reducible apply Kp.alloc) | (with_reducible apply Kp.drew) | (with_reducible apply Kp.drewN) | (with_reducible refine Kp.setCell ?_ (by first | (dsimp only; omega) | (simp; omega) | (simp; done) | (simp [size_ext_eq]; omega)) _)))).mono ?_); rintro e w' ⟨_, h2⟩; obtain ⟨a', hea, rfl, u', rfl⟩ := h2 rfl; have HE := Lib.hid hea; clear h2 hea))
    refine bodyPost_ret (v := .tuple #[.nilIface, .int .i64 0, .iface 191 (.pointer (some a'))]) (by simp [results, Tryz.results48, go_sem]) rfl ?_
    exact ⟨nofun, fun _ => ⟨a', HE.out.kp (by repeat (first | (with_reducible exact Kp.refl _) | (with_reducible assumption) | (with_reducible apply Kp.ext) | (with_reducible apply Kp.alloc) | (with_reducible apply Kp.drew) | (with_reducible apply Kp.drewN) | (with_reducible refine Kp.setCell ?_ (by first | (dsimp only; omega) | (simp; omega) | (simp; done) | (simp [size_ext_eq]; omega)) _))), Ret.mk rfl (by repeat (first | (with_reducible exact Kp.refl _) | (with_reducible assumption) | (with_reducible apply Kp.ext) | (with_reducible apply Kp.alloc) | (with_reducible apply Kp.drew) | (with_reducible apply Kp.drewN) | (with_reducible refine Kp.setCell ?_ (by first | (dsimp only; omega) | (simp; omega) | (simp; done) | (simp [size_ext_eq]; omega)) _)))⟩⟩
  · go_enter Tryz.func48, Tryz.ntmps48
    go_wp2_with (first | (go_at_call 66; (first | (with_reducible refine (Ret.at_ext (H.out)).mono ?_) | (with_reducible refine (H.out).mono ?_)); rintro e w' ⟨rfl, u, rfl⟩) | (go_at_call 69; (with_reducible refine (H2.out _ (by repeat (first | (with_reducible exact Kp.refl _) | (with_reducible assumption) | (with_reducible apply Kp.ext) | (with_reducible apply Kp.alloc) | (with_reducible apply Kp.drew) | (with_reducible apply Kp.drewN) | (with_reducible refine Kp.setCell ?_ (by first | (dsimp only; omega) | (simp; omega) | (simp; done) | (simp [size_ext_eq]; omega)) _)))).mono ?_); rintro e w' ⟨h1, _⟩; obtain ⟨v', u', rfl, rfl, hpb⟩ := h1 rfl; have Hpb := Lib.hid hpb; clear h1 hpb))
    refine bodyPost_ret (v := .tuple #[.iface 91 v', .int .i64 s, .nilIface]) (by simp [results, Tryz.results48, go_sem]) rfl ?_
    exact ⟨fun _ => ⟨_, _, rfl, ext_of (show Kp w _ from (by repeat (first | (with_reducible exact Kp.refl _) | (with_reducible assumption) | (with_reducible apply Kp.ext) | (with_reducible apply Kp.alloc) | (with_reducible apply Kp.drew) | (with_reducible apply Kp.drewN) | (with_reducible refine Kp.setCell ?_ (by first | (dsimp only; omega) | (simp; omega) | (simp; done) | (simp [size_ext_eq]; omega)) _)))), v', rfl, hmono _ _ _ _ _ (by simp [size_ext_eq]) Hpb.out⟩, nofun⟩

set_option maxRecDepth 20000 in
set_option maxHeartbeats 1000000 in
theorem un_MultiLineString (b : Bool) (o s : Int) (v v2 : Value) (w : World) (G : Nat → Nat → World → Value → Prop) (hmono : ∀ lo lo' hi w v, lo' ≤ lo → G lo hi w v → G lo' hi w v)
    (hb : Calls Tryz.prog 66 #[v] w (Ret w (.tuple #[.int .i64 o, .int .u32 5, .int .i64 s, v2, .nilIface])))
    (hu : ∀ w', Kp w w' → Calls Tryz.prog 70 #[.int .i64 o, v2] w' (RetUn b w' G (.slice none 0 0))) :
    Calls Tryz.prog 48 #[v] w (RetSc b w (fun lo hi w v => ∃ u, v = .iface 97 u ∧ G lo hi w u) .nilIface s) := by
  have H := Lib.hid hb
  have H2 := Lib.hid hu
  clear hb hu
  cases b
  · go_enter Tryz.func48, Tryz.ntmps48
    go_wp2_with (first | (go_at_call 66; (first | (with_reducible refine (Ret.at_ext (H.out)).mono ?_) | (with_reducible refine (H.out).mono ?_)); rintro e w' ⟨rfl, u, rfl⟩) | (go_at_call 70; (with_reducible refine (H2.out _ (by repeat (first | (with_reducible exact Kp.refl _) | (with_reducible assumption) | (with_reducible apply Kp.ext) | (with_reducible apply Kp.alloc) | (with_reducible apply Kp.drew) | (with_reducible apply Kp.drewN) | (with_reducible refine Kp.setCell ?_ (by first | (dsimp only; omega) | (simp; omega) | (simp; done) | (simp [size_ext_eq]; omega)) _)))).mono ?_); rintro e w' ⟨_, h2⟩; obtain ⟨a', hea, rfl, u', rfl⟩ := h2 rfl; have HE := Lib.hid hea; clear h2 hea))
    refine bodyPost_ret (v := .tuple #[.nilIface, .int .i64 0, .iface 191 (.pointer (some a'))]) (by simp [results, Tryz.results48, go_sem]) rfl ?_
    exact ⟨nofun, fun _ => ⟨a', HE.out.kp (by repeat (first | (with_reducible exact Kp.refl _) | (with_reducible assumption) | (with_reducible apply Kp.ext) | (with_reducible apply Kp.alloc) | (with_reducible apply Kp.drew) | (with_reducible apply Kp.drewN) | (with_reducible refine Kp.setCell ?_ (by first | (dsimp only; omega) | (simp; omega) | (simp; done) | (simp [size_ext_eq]; omega)) _))), Ret.mk rfl (by repeat (first | (with_reducible exact Kp.refl _) | (with_reducible assumption) | (with_reducible apply Kp.ext) | (with_reducible apply Kp.alloc) | (with_reducible apply Kp.drew) | (with_reducible apply Kp.drewN) | (with_reducible refine Kp.setCell ?_ (by first | (dsimp only; omega) | (simp; omega) | (simp; done) | (simp [size_ext_eq]; omega)) _)))⟩⟩
  · go_enter Tryz.func48, Tryz.ntmps48
    go_wp2_with (first | (go_at_call 66; (first | (with_reducible refine (Ret.at_ext (H.out)).mono ?_) | (with_reducible refine (H.out).mono ?_)); rintro e w' ⟨rfl, u, rfl⟩) | (go_at_call 70; (with_reducible refine (H2.out _ (by repeat (first | (with_reducible exact Kp.refl _) | (with_reducible assumption) | (with_reducible apply Kp.ext) | (with_reducible apply Kp.alloc) | (with_reducible apply Kp.drew) | (with_reducible apply Kp.drewN) | (with_reducible refine Kp.setCell ?_ (by first | (dsimp only; omega) | (simp; omega) | (simp; done) | (simp [size_ext_eq]; omega)) _)))).mono ?_); rintro e w' ⟨h1, _⟩; obtain ⟨v', u', rfl, rfl, hpb⟩ := h1 rfl; have Hpb := Lib.hid hpb; clear h1 hpb))
    refine bodyPost_ret (v := .tuple #[.iface 97 v', .int .i64 s, .nilIface]) (by simp [results, Tryz.results48, go_sem]) rfl ?_
    exact ⟨fun _ => ⟨_, _, rfl, ext_of (show Kp w _ from (by repeat (first | (with_reducible exact Kp.refl _) | (with_reducible assumption) | (with_reducible apply Kp.ext) | (with_reducible apply Kp.alloc) | (with_reducible apply Kp.drew) | (with_reducible apply Kp.drewN) | (with_reducible refine Kp.setCell ?_ (by first | (dsimp only; omega) | (simp; omega) | (simp; done) | (simp [size_ext_eq]; omega)) _)))), v', rfl, hmono _ _ _ _ _ (by simp [size_ext_eq]) Hpb.out⟩, nofun⟩

set_option maxRecDepth 20000 in
set_option maxHeartbeats 1000000 in
theorem un_Polygon (b : Bool) (o s : Int) (v v2 : Value) (w : World) (G : Nat → Nat → World → Value → Prop) (hmono : ∀ lo lo' hi w v, lo' ≤ lo → G lo hi w v → G lo' hi w v)
    (hb : Calls Tryz.prog 66 #[v] w (Ret w (.tuple #[.int .i64 o, .int .u32 3, .int .i64 s, v2, .nilIface])))
    (hu : ∀ w', Kp w w' → Calls Tryz.prog 71 #[.int .i64 o, v2] w' (RetUn b w' G (.slice none 0 0))) :
    Calls Tryz.prog 48 #[v] w (RetSc b w (fun lo hi w v => ∃ u, v = .iface 93 u ∧ G lo hi w u) .nilIface s) := by
  have H := Lib.hid hb
  have H2 := Lib.hid hu
  clear hb hu
  cases b
  · go_enter Tryz.func48, Tryz.ntmps48
    go_wp2_with (first | (go_at_call 66; (first | (with_reducible refine (Ret.at_ext (H.out)).mono ?_) | (with_reducible refine (H.out).mono ?_)); rintro e w' ⟨rfl, u, rfl⟩) | (go_at_call 71; (with_reducible refine (H2.out _ (by repeat (first | (with_reducible exact Kp.refl _) | (with_reducible assumption) | (with_reducible apply Kp.ext) | (with_reducible apply Kp.alloc) | (with_reducible apply Kp.drew) | (with_reducible apply Kp.drewN) | (with_reducible refine Kp.setCell ?_ (by first | (dsimp only; omega) | (simp; omega) | (simp; done) | (simp [size_ext_eq]; omega)) _)))).mono ?_); rintro e w' ⟨_, h2⟩; obtain ⟨a', hea, rfl, u', rfl⟩ := h2 rfl; have HE := Lib.hid hea; clear h2 hea))
    refine bodyPost_ret (v := .tuple #[.nilIface, .int .i64 0, .iface 191 (.pointer (some a'))]) (by simp [results, Tryz.results48, go_sem]) rfl ?_
    exact ⟨nofun, fun _ => ⟨a', HE.out.kp (by repeat (first | (with_reducible exact Kp.refl _) | (with_reducible assumption) | (with_reducible apply Kp.ext) | (with_reducible apply Kp.alloc) | (with_reducible apply Kp.drew) | (with_reducible apply Kp.drewN) | (with_reducible refine Kp.setCell ?_ (by first | (dsimp only; omega) | (simp; omega) | (simp; done) | (simp [size_ext_eq]; omega)) _))), Ret.mk rfl (by repeat (first | (with_reducible exact Kp.refl _) | (with_reducible assumption) | (with_reducible apply Kp.ext) | (with_reducible apply Kp.alloc) | (with_reducible apply Kp.drew) | (with_reducible apply Kp.drewN) | (with_reducible refine Kp.setCell ?_ (by first | (dsimp only; omega) | (simp; omega) | (simp; done) | (simp [size_ext_eq]; omega)) _)))⟩⟩
  · go_enter Tryz.func48, Tryz.ntmps48
    go_wp2_with (first | (go_at_call 66; (first | (with_reducible refine (Ret.at_ext (H.out)).mono ?_) | (with_reducible refine (H.out).mono ?_)); rintro e w' ⟨rfl, u, rfl⟩) | (go_at_call 71; (with_reducible refine (H2.out _ (by repeat (first | (with_reducible exact Kp.refl _) | (with_reducible assumption) | (with_reducible apply Kp.ext) | (with_reducible apply Kp.alloc) | (with_reducible apply Kp.drew) | (with_reducible apply Kp.drewN) | (with_reducible refine Kp.setCell ?_ (by first | (dsimp only; omega) | (simp; omega) | (simp; done) | (simp [size_ext_eq]; omega)) _)))).mono ?_); rintro e w' ⟨h1, _⟩; obtain ⟨v', u', rfl, rfl, hpb⟩ := h1 rfl; have Hpb := Lib.hid hpb; clear h1 hpb))
    refine bodyPost_ret (v := .tuple #[.iface 93 v', .int .i64 s, .nilIface]) (by simp [results, Tryz.results48, go_sem]) rfl ?_
    exact ⟨fun _ => ⟨_, _, rfl, ext_of (show Kp w _ from (by repeat (first | (with_reducible exact Kp.refl _) | (with_reducible assumption) | (with_reducible apply Kp.ext) | (with_reducible apply Kp.alloc) | (with_reducible apply Kp.drew) | (with_reducible apply Kp.drewN) | (with_reducible refine Kp.setCell ?_ (by first | (dsimp only; omega) | (simp; omega) | (simp; done) | (simp [size_ext_eq]; omega)) _)))), v', rfl, hmono _ _ _ _ _ (by simp [size_ext_eq]) Hpb.out⟩, nofun⟩

set_option maxRecDepth 20000 in
set_option maxHeartbeats 1000000 in
theorem un_MultiPolygon (b : Bool) (o s : Int) (v v2 : Value) (w : World) (G : Nat → Nat → World → Value → Prop) (hmono : ∀ lo lo' hi w v, lo' ≤ lo → G lo hi w v → G lo' hi w v)
    (hb : Calls Tryz.prog 66 #[v] w (Ret w (.tuple #[.int .i64 o, .int .u32 6, .int .i64 s, v2, .nilIface])))
    (hu : ∀ w', Kp w w' → Calls Tryz.prog 72 #[.int .i64 o, v2] w' (RetUn b w' G (.slice none 0 0))) :
    Calls Tryz.prog 48 #[v] w (RetSc b w (fun lo hi w v => ∃ u, v = .iface 99 u ∧ G lo hi w u) .nilIface s) := by
  have H := Lib.hid hb
  have H2 := Lib.hid hu
  clear hb hu
  cases b
  · go_enter Tryz.func48, Tryz.ntmps48
    go_wp2_with (first | (go_at_call 66; (first | (with_reducible refine (Ret.at_ext (H.out)).mono ?_) | (with_reducible refine (H.out).mono ?_)); rintro e w' ⟨rfl, u, rfl⟩) | (go_at_call 72; (with_reducible refine (H2.out _ (by repeat (first | (with_reducible exact Kp.refl _) | (with_reducible assumption) | (with_reducible apply Kp.ext) | (with_reducible apply Kp.alloc) | (with_reducible apply Kp.drew) | (with_reducible apply Kp.drewN) | (with_reducible refine Kp.setCell ?_ (by first | (dsimp only; omega) | (simp; omega) | (simp; done) | (simp [size_ext_eq]; omega)) _)))).mono ?_); rintro e w' ⟨_, h2⟩; obtain ⟨a', hea, rfl, u', rfl⟩ := h2 rfl; have HE := Lib.hid hea; clear h2 hea))
    refine bodyPost_ret (v := .tuple #[.nilIface, .int .i64 0, .iface 191 (.pointer (some a'))]) (by simp [results, Tryz.results48, go_sem]) rfl ?_
    exact ⟨nofun, fun _ => ⟨a', HE.out.kp (by repeat (first | (with_reducible exact Kp.refl _) | (with_reducible assumption) | (with_reducible apply Kp.ext) | (with_reducible apply Kp.alloc) | (with_reducible apply Kp.drew) | (with_reducible apply Kp.drewN) | (with_reducible refine Kp.setCell ?_ (by first | (dsimp only; omega) | (simp; omega) | (simp; done) | (simp [size_ext_eq]; omega)) _))), Ret.mk rfl (by repeat (first | (with_reducible exact Kp.refl _) | (with_reducible assumption) | (with_reducible apply Kp.ext) | (with_reducible apply Kp.alloc) | (with_reducible apply Kp.drew) | (with_reducible apply Kp.drewN) | (with_reducible refine Kp.setCell ?_ (by first | (dsimp only; omega) | (simp; omega) | (simp; done) | (simp [size_ext_eq]; omega)) _)))⟩⟩
  · go_enter Tryz.func48, Tryz.ntmps48
    go_wp2_with (first | (go_at_call 66; (first | (with_reducible refine (Ret.at_ext (H.out)).mono ?_) | (with_reducible refine (H.out).mono ?_)); rintro e w' ⟨rfl, u, rfl⟩) | (go_at_call 72; (with_reducible refine (H2.out _ (by repeat (first | (with_reducible exact Kp.refl _) | (with_reducible assumption) | (with_reducible apply Kp.ext) | (with_reducible apply Kp.alloc) | (with_reducible apply Kp.drew) | (with_reducible apply Kp.drewN) | (with_reducible refine Kp.setCell ?_ (by first | (dsimp only; omega) | (simp; omega) | (simp; done) | (simp [size_ext_eq]; omega)) _)))).mono ?_); rintro e w' ⟨h1, _⟩; obtain ⟨v', u', rfl, rfl, hpb⟩ := h1 rfl; have Hpb := Lib.hid hpb; clear h1 hpb))
    refine bodyPost_ret (v := .tuple #[.iface 99 v', .int .i64 s, .nilIface]) (by simp [results, Tryz.results48, go_sem]) rfl ?_
    exact ⟨fun _ => ⟨_, _, rfl, ext_of (show Kp w _ from (by repeat (first | (with_reducible exact Kp.refl _) | (with_reducible assumption) | (with_reducible apply Kp.ext) | (with_reducible apply Kp.alloc) | (with_reducible apply Kp.drew) | (with_reducible apply Kp.drewN) | (with_reducible refine Kp.setCell ?_ (by first | (dsimp only; omega) | (simp; omega) | (simp; done) | (simp [size_ext_eq]; omega)) _)))), v', rfl, hmono _ _ _ _ _ (by simp [size_ext_eq]) Hpb.out⟩, nofun⟩

set_option maxRecDepth 20000 in
set_option maxHeartbeats 1000000 in
theorem wkbUn_c (b : Bool) (s : Int) (v : Value) (w : World) (G : Nat → Nat → World → Value → Prop) (hmono : ∀ lo lo' hi w v, lo' ≤ lo → G lo hi w v → G lo' hi w v) (hG : Gls w)
    (h : Calls Tryz.prog 48 #[v] w (RetSc b w G .nilIface s)) :
    Calls Tryz.prog 31 #[v] w (RetUn b w G .nilIface) := by
  have H := Lib.hid h
  have HM := Lib.hid (fun a w' he (k : Kp w w') => mapErr_c a w' he (hG.kp k))
  clear h
  cases b
  · go_enter Tryz.func31, Tryz.ntmps31
    go_wp2_with (first | (go_at_call 48; (with_reducible refine (H.out).mono ?_); rintro e w' ⟨_, h2⟩; obtain ⟨a, hea, rfl, u, rfl⟩ := h2 rfl; have HE := Lib.hid hea; clear h2 hea) | (go_at_call 41; (with_reducible refine (HM.out _ _ HE.out (by repeat (first | (with_reducible exact Kp.refl _) | (with_reducible assumption) | (with_reducible apply Kp.ext) | (with_reducible apply Kp.alloc) | (with_reducible apply Kp.drew) | (with_reducible apply Kp.drewN) | (with_reducible refine Kp.setCell ?_ (by first | (dsimp only; omega) | (simp; omega) | (simp; done) | (simp [size_ext_eq]; omega)) _)))).mono ?_); rintro e w' ⟨a', hea, rfl, u', rfl⟩; have HE := Lib.hid hea; clear hea))
    refine bodyPost_ret (v := .tuple #[.nilIface, .iface 191 (.pointer (some a'))]) (by simp [results, Tryz.results31, go_sem]) rfl ?_
    exact ⟨nofun, fun _ => ⟨a', HE.out.kp (by repeat (first | (with_reducible exact Kp.refl _) | (with_reducible assumption) | (with_reducible apply Kp.ext) | (with_reducible apply Kp.alloc) | (with_reducible apply Kp.drew) | (with_reducible apply Kp.drewN) | (with_reducible refine Kp.setCell ?_ (by first | (dsimp only; omega) | (simp; omega) | (simp; done) | (simp [size_ext_eq]; omega)) _))), Ret.mk rfl (by repeat (first | (with_reducible exact Kp.refl _) | (with_reducible assumption) | (with_reducible apply Kp.ext) | (with_reducible apply Kp.alloc) | (with_reducible apply Kp.drew) | (with_reducible apply Kp.drewN) | (with_reducible refine Kp.setCell ?_ (by first | (dsimp only; omega) | (simp; omega) | (simp; done) | (simp [size_ext_eq]; omega)) _)))⟩⟩
  · go_enter Tryz.func31, Tryz.ntmps31
    go_wp2_with (go_at_call 48; (with_reducible refine (H.out).mono ?_); rintro e w' ⟨h1, _⟩; obtain ⟨v', u', rfl, rfl, hpb⟩ := h1 rfl; have Hpb := Lib.hid hpb; clear h1 hpb)
    refine bodyPost_ret (v := .tuple #[v', .nilIface]) (by simp [results, Tryz.results31, go_sem]) rfl ?_
    exact ⟨fun _ => ⟨_, _, rfl, ext_of (show Kp w _ from (by repeat (first | (with_reducible exact Kp.refl _) | (with_reducible assumption) | (with_reducible apply Kp.ext) | (with_reducible apply Kp.alloc) | (with_reducible apply Kp.drew) | (with_reducible apply Kp.drewN) | (with_reducible refine Kp.setCell ?_ (by first | (dsimp only; omega) | (simp; omega) | (simp; done) | (simp [size_ext_eq]; omega)) _)))), Hpb.out⟩, nofun⟩

theorem Agree.re2 {w w' u : World} (hs : w.heap.size = w'.heap.size) : Agree w.heap.size (ext w u).heap.size (ext w u) (ext w' u) := fun b h1 _ => by
  rw [heap_ext, heap_ext, Array.getElem?_append_right h1, Array.getElem?_append_right (by omega), hs]
theorem ext_same2 {w w' u : World} (hs : w.heap.size = w'.heap.size) : (ext w u).heap.size = (ext w' u).heap.size := by
  rw [size_ext_eq, size_ext_eq, hs]
/-- what Decode hands back: a shape, or none -/
def RetDec (b : Bool) (d : Nat) (s : Sh) (w : World) (e : Ending) (w' : World) : Prop :=
  (b = true → ∃ lv pv u, e = .returned (.tuple #[.agg #[.int .i64 s.kind, lv, pv], .bool true]) ∧ w' = ext w u ∧ ShB d w.heap.size w'.heap.size w' lv pv s) ∧ (b = false → Ret w (.tuple #[.agg #[.int .i64 0, .slice none 0 0, .slice none 0 0], .bool false]) e w')
set_option maxRecDepth 20000 in
set_option maxHeartbeats 1000000 in
theorem decode_c (b : Bool) (d : Nat) (s : Sh) (v : Value) (w : World)
    (h : ∀ w', Kp w w' → Calls Tryz.prog 31 #[v] w' (RetUn b w' (fun lo hi w v => GeoB d lo hi w v s) .nilIface))
    (hs : ∀ lo hi v w', GeoB d lo hi w' v s → Calls Tryz.prog 27 #[v] w' (RetSh d s w')) :
    Calls Tryz.prog 14 #[v] w (RetDec b d s w) := by
  have H := Lib.hid h
  have HS := Lib.hid hs
  clear h hs
  cases b
  · go_enter Tryz.func14, Tryz.ntmps14
    go_wp2_with (go_at_call 31; (with_reducible refine (H.out _ (by repeat (first | (with_reducible exact Kp.refl _) | (with_reducible assumption) | (with_reducible apply Kp.ext) | (with_reducible apply Kp.alloc) | (with_reducible apply Kp.drew) | (with_reducible apply Kp.drewN) | (with_reducible refine Kp.setCell ?_ (by first | (dsimp only; omega) | (simp; omega) | (simp; done) | (simp [size_ext_eq]; omega)) _)))).mono ?_); rintro e w' ⟨_, h2⟩; obtain ⟨a, hea, rfl, u, rfl⟩ := h2 rfl; have HE := Lib.hid hea; clear h2 hea)
    refine bodyPost_ret (v := .tuple #[.agg #[.int .i64 0, .slice none 0 0, .slice none 0 0], .bool false]) (by simp [results, Tryz.results14, go_sem]) rfl ?_
    exact ⟨nofun, fun _ => Ret.mk rfl (by repeat (first | (with_reducible exact Kp.refl _) | (with_reducible assumption) | (with_reducible apply Kp.ext) | (with_reducible apply Kp.alloc) | (with_reducible apply Kp.drew) | (with_reducible apply Kp.drewN) | (with_reducible refine Kp.setCell ?_ (by first | (dsimp only; omega) | (simp; omega) | (simp; done) | (simp [size_ext_eq]; omega)) _)))⟩
  · go_enter Tryz.func14, Tryz.ntmps14
    go_wp2_with (first | (go_at_call 31; (with_reducible refine (H.out _ (by repeat (first | (with_reducible exact Kp.refl _) | (with_reducible assumption) | (with_reducible apply Kp.ext) | (with_reducible apply Kp.alloc) | (with_reducible apply Kp.drew) | (with_reducible apply Kp.drewN) | (with_reducible refine Kp.setCell ?_ (by first | (dsimp only; omega) | (simp; omega) | (simp; done) | (simp [size_ext_eq]; omega)) _)))).mono ?_); rintro e w' ⟨h1, _⟩; obtain ⟨v', u', rfl, rfl, hpb⟩ := h1 rfl; obtain ⟨tt, uu, rfl⟩ := GeoB.iface hpb; have Hpb := Lib.hid hpb; clear h1 hpb) | (go_at_call 27; (with_reducible refine (HS.out _ _ _ _ Hpb.out).mono ?_); rintro e w' ⟨lv, pv, u2, rfl, rfl, hsh⟩; obtain ⟨⟨q1, m1, d1, rfl⟩, q2, m2, d2, rfl⟩ := hsh.form; have Hsh := Lib.hid hsh; clear hsh))
    refine bodyPost_ret (v := .tuple #[.agg #[.int .i64 s.kind, .slice q1 m1 d1, .slice q2 m2 d2], .bool true]) (by simp [results, Tryz.results14, go_sem]) rfl ?_
    exact ⟨fun _ => ⟨_, _, _, rfl, ext_of (show Kp w _ from (by repeat (first | (with_reducible exact Kp.refl _) | (with_reducible assumption) | (with_reducible apply Kp.ext) | (with_reducible apply Kp.alloc) | (with_reducible apply Kp.drew) | (with_reducible apply Kp.drewN) | (with_reducible refine Kp.setCell ?_ (by first | (dsimp only; omega) | (simp; omega) | (simp; done) | (simp [size_ext_eq]; omega)) _)))), ShB.mono (ShB.keep Hsh.out (Agree.re2 (by simp [size_ext_eq])) (Nat.le_of_eq (ext_same2 (by simp [size_ext_eq])))) (by simp [size_ext_eq]; first | done | omega) (Nat.le_of_eq (ext_same2 (by simp [size_ext_eq])))⟩, nofun⟩

end Go.Proofs.YtobdohhabgnjiaaGreatDoor

set_option linter.all false
namespace Go.Proofs.YtobdohhabgnjiaaGreatDoor
open PubFl Go.RowKit

attribute [local go_sem] cell_ext frozen_ext ext_setCell cell_store size_ext_eq lt_p0 lt_p1 lt_p2 lt_p3 lt_p4 lt_p5 lt_p6 lt_p7 lt_p8 lt_p9 lt_p10 lt_p11 lt_p12 lt_p13 lt_p14 lt_p15 lt_p16 lt_p17 lt_p18 lt_p19 lt_p20 lt_p21 lt_p22 lt_p23 lt_p24 lt_p25 lt_p26 lt_p27 lt_p28 lt_p29 lt_p30 lt_p31 lt_p32 lt_q1 lt_q2 lt_q3 lt_q4 lt_q5 lt_q6 lt_q7 lt_q8 lt_q9 lt_q10 lt_q11 lt_q12 lt_q13 lt_q14 lt_q15 lt_q16 lt_q17 lt_q18 lt_q19 lt_q20 lt_q21 lt_q22 lt_q23 lt_q24 lt_q25 lt_q26 lt_q27 lt_q28 lt_q29 lt_q30 lt_q31 lt_q32 run_fop run_store_float
attribute [local go_sem high] cmp_eql cmp_neq cmp_lss cmp_leq cmp_gtr cmp_geq

theorem bits_getD {d : Nat} {s : Sh} (h : BitsSh (d + 1) s) (i : Nat) : Bits (s.lists.getD i []) := by
  by_cases c : i < s.lists.length
  · exact h.1 _ (mem_getD' c)
  · rw [List.getD_eq_getElem?_getD, List.getElem?_eq_none (by omega)]
    intro j hj; simp at hj
theorem polyForm_len (ls : List (List (Nat × Nat))) (sys : Nat) (pb : Bool) (h0 : sys = 0) : ∀ (k : Nat), (accB (headB 3 sys pb ++ num32 ls.length pb) (fun i => num32 (ls.getD i []).length pb ++ ptsForm (ls.getD i []) pb) k).length = ringsLen ls k
  | 0 => by
    subst h0
    show (headB 3 0 pb ++ num32 ls.length pb).length = 9
    rw [List.length_append, headB_length, num32_length]; rfl
  | k + 1 => by
    have e := polyForm_len ls sys pb h0 k
    show (accB _ _ k ++ (num32 (ls.getD k []).length pb ++ ptsForm (ls.getD k []) pb)).length = ringsLen ls k + (4 + 16 * (ls.getD k []).length)
    rw [List.length_append, e, List.length_append, num32_length, ptsForm_length]; omega

/-- Unmarshal of a form whose head is whole, by kind -/
theorem unBody_c (b : Bool) (d : Nat) (s : Sh) (hok : cntOk (d + 1) s = true) (hsm : Small (d + 1) s) (hbits : BitsSh (d + 1) s) (hK7 : s.kind ≠ 7) (kk : Nat) (hkk : s.kind = (kk : Int)) (sys : Nat) (big turns : Bool) (F r : List Nat)
    (hF : formSh (d + 1) s sys big turns = headB kk sys big ++ F) (r2 : List Nat) (hP : PreB b F r r2) (v : Value) (a2 : Option Addr) (n2 c2 : Nat) (hn : n2 = r2.length) (hnc : n2 ≤ c2) (hm : n2 ≤ 1000000000000) (w : World) (hB : BytesO w a2 r2) (hG : Gls w) (si : Int)
    (hb : Calls Tryz.prog 66 #[v] w (Ret w (.tuple #[.int .i64 (ordI big), .int .u32 (kk : Int), .int .i64 si, .slice a2 n2 c2, .nilIface]))) :
    Calls Tryz.prog 48 #[v] w (RetSc b w (fun lo hi w v => GeoB (d + 1) lo hi w v s) .nilIface si) := by
  obtain ⟨h1, h2, h3⟩ := cntOk_parts hok
  obtain ⟨k1, k2, k3, k4⟩ := shHead_spec h1
  have hg0 := getD_le hsm.1 0
  rcases (show s.kind = 1 ∨ s.kind = 2 ∨ s.kind = 3 ∨ s.kind = 4 ∨ s.kind = 5 ∨ s.kind = 6 by omega) with hK | hK | hK | hK | hK | hK
  · rw [formB_1 hK] at h3
    simp only [Bool.and_eq_true, decide_eq_true_eq] at h3
    obtain ⟨⟨e1, e2⟩, e3⟩ := h3
    obtain ⟨ps, hps⟩ := List.length_eq_one_iff.1 e1
    rw [hps] at e2
    obtain ⟨⟨x, y⟩, rfl⟩ := List.length_eq_one_iff.1 (show ps.length = 1 from e2)
    have hgd : s.lists.getD 0 [] = [(x, y)] := by rw [hps]; rfl
    obtain rfl : kk = 1 := by omega
    rw [formSh_1 hK, hgd] at hF
    obtain rfl := List.append_cancel_left hF
    obtain ⟨hx, hy⟩ := (hbits.1 [(x, y)] (by rw [hps]; simp)) 0 (by simp)
    have epf : ptsForm [(x, y)] big = num64 x big ++ num64 y big := by unfold ptsForm; simp
    rw [epf] at hP
    refine (un_Point b (ordI big) si v _ w (fun _ _ _ v => v = .agg #[.float .f64 x, .float .f64 y]) (fun _ _ _ _ _ _ h => h) hb (fun w' hk => ?_)).mono ?_
    · subst hn
      cases b
      · have hl := hP.len
        rw [List.length_append, num64_length, num64_length] at hl
        exact (unPoint_short _ a2 _ c2 (by omega) w' (hG.notW.kp hk)).mono fun e w2 h => ⟨nofun, fun _ => h⟩
      · obtain rfl := hP.whole
        obtain ⟨g, off, rfl, hg, hbb⟩ := (hB.kp hk).at (by rw [List.length_append, List.length_append, num64_length]; omega)
        exact (unPoint_c x y hx hy big g off _ c2 (by rw [List.length_append, List.length_append, num64_length, num64_length]; omega) hnc w' hg hbb.front).mono fun e w2 ⟨h, u, hu⟩ => ⟨fun _ => ⟨_, u, h, hu, rfl⟩, nofun⟩
    · rintro e w2 ⟨g1, g2⟩
      refine ⟨fun hbt => ?_, g2⟩
      obtain ⟨v', u, he, hu, u2, rfl, rfl⟩ := g1 hbt
      exact ⟨_, u, he, hu, .inl ⟨hK, x, y, hps, List.eq_nil_of_length_eq_zero e3, rfl⟩⟩
  · rw [formB_2 hK] at h3
    simp only [Bool.and_eq_true, decide_eq_true_eq] at h3
    obtain ⟨e1, e3⟩ := h3
    obtain ⟨ps, hps⟩ := List.length_eq_one_iff.1 e1
    have hgd : s.lists.getD 0 [] = ps := by rw [hps]; rfl
    obtain rfl : kk = 2 := by omega
    rw [formSh_2 hK, hgd, List.append_assoc] at hF
    obtain rfl := List.append_cancel_left hF
    rw [hgd] at hg0
    refine (un_LineString b (ordI big) si v _ w (fun lo hi w v => PtsB lo hi w v ps) (fun _ _ _ _ _ h g => PtsB.mono g h (Nat.le_refl _)) hb (fun w' hk => ?_)).mono ?_
    · exact unLS_c b big ps hg0 (hbits.1 _ (by rw [hps]; simp)) r r2 hP a2 n2 c2 hn hnc hm w' (hB.kp hk) (hG.notW.kp hk)
    · rintro e w2 ⟨g1, g2⟩
      refine ⟨fun hbt => ?_, g2⟩
      obtain ⟨v', u, he, hu, u2, rfl, hg⟩ := g1 hbt
      exact ⟨_, u, he, hu, .inr (.inl ⟨hK, ps, u2, hps, List.eq_nil_of_length_eq_zero e3, rfl, hg⟩)⟩
  · rw [formB_3 hK] at h3
    simp only [decide_eq_true_eq] at h3
    obtain rfl : kk = 3 := by omega
    rw [formSh_3 hK, accB_suf, List.append_assoc] at hF
    obtain rfl := List.append_cancel_left hF
    refine (un_Polygon b (ordI big) si v _ w (fun lo hi w v => ListsB s.lists lo hi w v) (fun _ _ _ _ _ h g => RowB.mono g h (Nat.le_refl _)) hb (fun w' hk => ?_)).mono ?_
    · refine unPoly_l b big s.lists k3 hsm.1 _ (fun i hi => ?_) r r2 hP a2 n2 c2 hn hnc hm w' (hB.kp hk) (hG.notW.kp hk) (fun k hk' b' r' r3 a n c w3 hp3 hn3 hnc3 hm3 hk3 hb3 => ?_)
      · rw [List.length_append, num32_length, ptsForm_length]; omega
      · exact unPts_c b' big _ (getD_le hsm.1 k) (bits_getD hbits k) r' r3 hp3 a n c hn3 hnc3 hm3 w3 hb3 ((hG.notW.kp hk).kp hk3)
    · rintro e w2 ⟨g1, g2⟩
      refine ⟨fun hbt => ?_, g2⟩
      obtain ⟨v', u, he, hu, u2, rfl, hg⟩ := g1 hbt
      exact ⟨_, u, he, hu, .inr (.inr (.inl ⟨hK, u2, List.eq_nil_of_length_eq_zero h3, rfl, hg⟩))⟩
  · rw [formB_4 hK] at h3
    simp only [Bool.and_eq_true, decide_eq_true_eq] at h3
    obtain ⟨e1, e3⟩ := h3
    obtain ⟨ps, hps⟩ := List.length_eq_one_iff.1 e1
    have hgd : s.lists.getD 0 [] = ps := by rw [hps]; rfl
    obtain rfl : kk = 4 := by omega
    rw [formSh_4 hK, hgd, accB_suf, List.append_assoc] at hF
    obtain rfl := List.append_cancel_left hF
    rw [hgd] at hg0
    have hbp : Bits ps := hbits.1 _ (by rw [hps]; simp)
    refine (un_MultiPoint b (ordI big) si v _ w (fun lo hi w v => PtsB lo hi w v ps) (fun _ _ _ _ _ h g => PtsB.mono g h (Nat.le_refl _)) hb (fun w' hk => ?_)).mono ?_
    · refine unMP_l b big ps hg0 _ (fun i hi => ?_) r r2 hP a2 n2 c2 hn hnc hm w' (hB.kp hk) (hG.notW.kp hk) (fun k hk' b' r' r3 a n c w3 hp3 hn3 hnc3 hm3 hk3 hb3 => ?_)
      · rw [List.length_append, headB_length, ptsForm_length]; rfl
      · obtain ⟨b0, b1⟩ := hbp k hk'
        have e : ps.getD k (0, 0) = ps[k]'hk' := by rw [List.getD_eq_getElem?_getD, List.getElem?_eq_getElem hk']; rfl
        rw [e] at hp3
        exact scanPoint_c b' _ (ps[k]'hk').1 (ps[k]'hk').2 b0 b1 r' r3 hp3 a n c hn3 hnc3 w3 hb3 ((hG.notW.kp hk).kp hk3)
    · rintro e w2 ⟨g1, g2⟩
      refine ⟨fun hbt => ?_, g2⟩
      obtain ⟨v', u, he, hu, u2, rfl, hg⟩ := g1 hbt
      exact ⟨_, u, he, hu, .inr (.inr (.inr (.inl ⟨hK, ps, u2, hps, List.eq_nil_of_length_eq_zero e3, rfl, hg⟩)))⟩
  · rw [formB_5 hK] at h3
    simp only [decide_eq_true_eq] at h3
    obtain rfl : kk = 5 := by omega
    rw [formSh_5 hK, accB_suf, List.append_assoc] at hF
    obtain rfl := List.append_cancel_left hF
    refine (un_MultiLineString b (ordI big) si v _ w (fun lo hi w v => ListsB s.lists lo hi w v) (fun _ _ _ _ _ h g => RowB.mono g h (Nat.le_refl _)) hb (fun w' hk => ?_)).mono ?_
    · refine unMLS_l b big s.lists k3 hsm.1 _ (fun i hi => ?_) r r2 hP a2 n2 c2 hn hnc hm w' (hB.kp hk) (hG.notW.kp hk) (fun k hk' b' r' r3 a n c w3 hp3 hn3 hnc3 hm3 hk3 hb3 => ?_)
      · rw [List.length_append, List.length_append, headB_length, num32_length, ptsForm_length, if_pos rfl]; omega
      · rw [List.append_assoc] at hp3
        exact scanLS_c b' _ _ (by rw [List.length_append, num32_length]; omega) _ r' r3 hp3 a n c hn3 hnc3 w3 hb3 ((hG.notW.kp hk).kp hk3)
          (fun a4 n4 c4 r4 w4 hp4 hn4 hnc4 hle hk4 hb4 => unLS_c b' _ _ (getD_le hsm.1 k) (bits_getD hbits k) r' r4 hp4 a4 n4 c4 hn4 hnc4 (by omega) w4 hb4 (((hG.notW.kp hk).kp hk3).kp hk4))
    · rintro e w2 ⟨g1, g2⟩
      refine ⟨fun hbt => ?_, g2⟩
      obtain ⟨v', u, he, hu, u2, rfl, hg⟩ := g1 hbt
      exact ⟨_, u, he, hu, .inr (.inr (.inr (.inr (.inl ⟨hK, u2, List.eq_nil_of_length_eq_zero h3, rfl, hg⟩))))⟩
  · rw [formB_6 hK] at h3
    simp only [decide_eq_true_eq] at h3
    obtain rfl : kk = 6 := by omega
    rw [formSh_6 hK, accB_suf, List.append_assoc] at hF
    obtain rfl := List.append_cancel_left hF
    have hpart : ∀ i, i < s.parts.length → (s.parts.getD i dsh).kind = 3 ∧ (s.parts.getD i dsh).parts = [] ∧ cntOk d (s.parts.getD i dsh) = true ∧ Small d (s.parts.getD i dsh) ∧ BitsSh d (s.parts.getD i dsh) := fun i hi => by
      have hmem : s.parts.getD i dsh ∈ s.parts := mem_getD' hi
      obtain ⟨p1, p2⟩ := h2 _ hmem
      have hk3 : (s.parts.getD i dsh).kind = 3 := by
        unfold partB at p2
        rw [hK] at p2
        simpa using p2
      refine ⟨hk3, ?_, p1, hsm.2 _ hmem, hbits.2 _ hmem⟩
      cases d with
      | zero => cases p1
      | succ d =>
        have q := (cntOk_parts p1).2.2
        rw [formB_3 hk3] at q
        exact List.eq_nil_of_length_eq_zero (of_decide_eq_true q)
    have hd : ∀ i, i < s.parts.length → ∃ d', d = d' + 1 := fun i hi => by
      cases d with
      | zero => exact absurd (hpart i hi).2.2.1 (by intro h; cases h)
      | succ d' => exact ⟨d', rfl⟩
    refine (un_MultiPolygon b (ordI big) si v _ w (fun lo hi w v => RowB (PolyE s.parts) lo hi w v s.parts.length) (fun _ _ _ _ _ h g => RowB.mono g h (Nat.le_refl _)) hb (fun w' hk => ?_)).mono ?_
    · refine unMPoly_l b big s.parts k4 (fun i hi => ?_) _ (fun i hi => ?_) r r2 hP a2 n2 c2 hn hnc hm w' (hB.kp hk) (hG.notW.kp hk) (fun k hk' b' r' r3 a n c w3 hp3 hn3 hnc3 hm3 hk3 hb3 => ?_)
      · obtain ⟨q1, q2, q3, q4, q5⟩ := hpart i hi
        obtain ⟨d', rfl⟩ := hd i hi
        exact ⟨(shHead_spec (cntOk_parts q3).1).2.2.1, q4.1⟩
      · obtain ⟨q1, q2, q3, q4, q5⟩ := hpart i hi
        obtain ⟨d', rfl⟩ := hd i hi
        show (formSh (d' + 1) (s.parts.getD i dsh) 0 (!(big == turns)) turns).length = _
        rw [formSh_3 q1]
        exact polyForm_len _ 0 _ rfl _
      · obtain ⟨q1, q2, q3, q4, q5⟩ := hpart k hk'
        obtain ⟨d', rfl⟩ := hd k hk'
        have hp3 : PreB b' (formSh (d' + 1) (s.parts.getD k dsh) 0 (!(big == turns)) turns) r' r3 := hp3
        rw [formSh_3 q1, accB_suf, List.append_assoc] at hp3
        have hq3 := (shHead_spec (cntOk_parts q3).1).2.2.1
        refine scanPoly_c b' _ _ (by rw [List.length_append, num32_length]; omega) _ r' r3 hp3 a n c hn3 hnc3 w3 hb3 ((hG.notW.kp hk).kp hk3)
          (fun a4 n4 c4 r4 w4 hp4 hn4 hnc4 hle hk4 hb4 => ?_)
        refine unPoly_l b' _ _ hq3 q4.1 _ (fun i hi => ?_) r' r4 hp4 a4 n4 c4 hn4 hnc4 (by omega) w4 hb4 (((hG.notW.kp hk).kp hk3).kp hk4) (fun k5 hk5' b5 r5' r5 a5 n5 c5 w5 hp5 hn5 hnc5 hm5 hk5 hb5 => ?_)
        · rw [List.length_append, num32_length, ptsForm_length]; omega
        · exact unPts_c b5 _ _ (getD_le q4.1 k5) (bits_getD q5 k5) r5' r5 hp5 a5 n5 c5 hn5 hnc5 hm5 w5 hb5 ((((hG.notW.kp hk).kp hk3).kp hk4).kp hk5)
    · rintro e w2 ⟨g1, g2⟩
      refine ⟨fun hbt => ?_, g2⟩
      obtain ⟨v', u, he, hu, u2, rfl, hg⟩ := g1 hbt
      exact ⟨_, u, he, hu, .inr (.inr (.inr (.inr (.inr (.inl ⟨hK, u2, List.eq_nil_of_length_eq_zero h3, rfl, hg⟩)))))⟩
end Go.Proofs.YtobdohhabgnjiaaGreatDoor

set_option linter.all false
namespace Go.Proofs.YtobdohhabgnjiaaGreatDoor
open PubFl Go.RowKit

attribute [local go_sem] cell_ext frozen_ext ext_setCell cell_store size_ext_eq lt_p0 lt_p1 lt_p2 lt_p3 lt_p4 lt_p5 lt_p6 lt_p7 lt_p8 lt_p9 lt_p10 lt_p11 lt_p12 lt_p13 lt_p14 lt_p15 lt_p16 lt_p17 lt_p18 lt_p19 lt_p20 lt_p21 lt_p22 lt_p23 lt_p24 lt_p25 lt_p26 lt_p27 lt_p28 lt_p29 lt_p30 lt_p31 lt_p32 lt_q1 lt_q2 lt_q3 lt_q4 lt_q5 lt_q6 lt_q7 lt_q8 lt_q9 lt_q10 lt_q11 lt_q12 lt_q13 lt_q14 lt_q15 lt_q16 lt_q17 lt_q18 lt_q19 lt_q20 lt_q21 lt_q22 lt_q23 lt_q24 lt_q25 lt_q26 lt_q27 lt_q28 lt_q29 lt_q30 lt_q31 lt_q32 run_fop run_store_float
attribute [local go_sem high] cmp_eql cmp_neq cmp_lss cmp_leq cmp_gtr cmp_geq

def plainPts : List (Nat × Nat) := [(4607182418800017408, 4611686018427387904), (4613937818241073152, 4616189618054758400)]
def plainSh : Sh := .mk 2 [plainPts] []
theorem plain_ok : isShB plainSh = true := by kernel_rfl
theorem plain_bits : Bits plainPts := by
  intro i hi
  rcases (show i = 0 ∨ i = 1 by simp [plainPts] at hi; omega) with rfl | rfl
  · exact ⟨(show (4607182418800017408 : Nat) < 2 ^ 64 by decide), (show (4611686018427387904 : Nat) < 2 ^ 64 by decide)⟩
  · exact ⟨(show (4613937818241073152 : Nat) < 2 ^ 64 by decide), (show (4616189618054758400 : Nat) < 2 ^ 64 by decide)⟩
def RetS (w : World) (e : Ending) (w' : World) : Prop := ∃ lv pv u, e = .returned (.agg #[.int .i64 2, lv, pv]) ∧ w' = ext w u ∧ ShIn 4 w' lv pv plainSh

set_option maxHeartbeats 1000000 in
theorem plain_c (w : World) : Calls Tryz.prog 13 #[] w (RetS w) := by
  go_enter Tryz.func13, Tryz.ntmps13
  go_wp2_with fail
  refine bodyPost_ret (v := .agg #[.int .i64 2, .slice (some ⟨w.heap.size + 1 + 1, 0, none⟩) 1 1, .slice none 0 0]) (by simp [results, Tryz.results13, go_sem]) rfl ⟨_, _, _, rfl, ext_of ?_, ?_⟩
  · show Kp w _
    exact (by repeat (first | (with_reducible exact Kp.refl _) | (with_reducible assumption) | (with_reducible apply Kp.ext) | (with_reducible apply Kp.alloc) | (with_reducible apply Kp.drew) | (with_reducible apply Kp.drewN) | (with_reducible refine Kp.setCell ?_ (by first | (dsimp only; omega) | (simp; omega) | (simp; done) | (simp [size_ext_eq]; omega)) _)))
  refine ⟨⟨some ⟨w.heap.size + 1 + 1, 0, none⟩, 1, rfl, by decide, .inr ⟨_, _, rfl, by simp, fun i hi => ?_⟩⟩, none, 0, rfl, by decide, .inl rfl⟩
  obtain rfl : i = 0 := by simp [plainSh, Sh.lists] at hi; exact hi
  refine ⟨.slice (some ⟨w.heap.size + 1, 0, none⟩) 2 2, by simp [go_sem], some ⟨w.heap.size + 1, 0, none⟩, 2, rfl, (show plainPts.length ≤ big by decide), .inr ⟨_, _, rfl, by simp, fun i hi => ?_⟩, plain_bits⟩
  rcases (show i = 0 ∨ i = 1 by simp [plainSh, Sh.lists, plainPts] at hi; omega) with rfl | rfl
  · exact ⟨by simp [go_sem]; rfl, by simp [go_sem]; rfl⟩
  · exact ⟨by simp [go_sem]; rfl, by simp [go_sem]; rfl⟩
end Go.Proofs.YtobdohhabgnjiaaGreatDoor

set_option linter.all false
namespace Go.Proofs.YtobdohhabgnjiaaGreatDoor
open PubFl Go.RowKit

attribute [local go_sem] cell_ext frozen_ext ext_setCell cell_store size_ext_eq lt_p0 lt_p1 lt_p2 lt_p3 lt_p4 lt_p5 lt_p6 lt_p7 lt_p8 lt_p9 lt_p10 lt_p11 lt_p12 lt_p13 lt_p14 lt_p15 lt_p16 lt_p17 lt_p18 lt_p19 lt_p20 lt_p21 lt_p22 lt_p23 lt_p24 lt_p25 lt_p26 lt_p27 lt_p28 lt_p29 lt_p30 lt_p31 lt_p32 lt_q1 lt_q2 lt_q3 lt_q4 lt_q5 lt_q6 lt_q7 lt_q8 lt_q9 lt_q10 lt_q11 lt_q12 lt_q13 lt_q14 lt_q15 lt_q16 lt_q17 lt_q18 lt_q19 lt_q20 lt_q21 lt_q22 lt_q23 lt_q24 lt_q25 lt_q26 lt_q27 lt_q28 lt_q29 lt_q30 lt_q31 lt_q32 run_fop run_store_float
attribute [local go_sem high] cmp_eql cmp_neq cmp_lss cmp_leq cmp_gtr cmp_geq

theorem accB_head (a b : List Nat) (f : Nat → List Nat) (k : Nat) : ∃ F, accB (a ++ b) f k = a ++ F ∧ b.length ≤ F.length := by
  refine ⟨accB b f k, ?_, accB_mono b f (Nat.zero_le k)⟩
  induction k with
  | zero => rfl
  | succ k ih =>
    show accB (a ++ b) f k ++ f k = a ++ (accB b f k ++ f k)
    rw [ih, List.append_assoc]
/-- a form: its head, and something behind it -/
theorem form_split (d : Nat) (s : Sh) (hok : cntOk (d + 1) s = true) (sys : Nat) (big turns : Bool) : ∃ (kk : Nat) (F : List Nat), s.kind = (kk : Int) ∧ 1 ≤ kk ∧ kk ≤ 7 ∧ formSh (d + 1) s sys big turns = headB kk sys big ++ F ∧ 4 ≤ F.length := by
  obtain ⟨h1, h2, h3⟩ := cntOk_parts hok
  obtain ⟨k1, k2, k3, k4⟩ := shHead_spec h1
  rcases (show s.kind = 1 ∨ s.kind = 2 ∨ s.kind = 3 ∨ s.kind = 4 ∨ s.kind = 5 ∨ s.kind = 6 ∨ s.kind = 7 by omega) with hK | hK | hK | hK | hK | hK | hK
  · rw [formB_1 hK] at h3
    simp only [Bool.and_eq_true, decide_eq_true_eq] at h3
    obtain ⟨⟨e1, e2⟩, e3⟩ := h3
    obtain ⟨ps, hps⟩ := List.length_eq_one_iff.1 e1
    rw [hps] at e2
    have hgd : s.lists.getD 0 [] = ps := by rw [hps]; rfl
    exact ⟨1, _, hK, by decide, by decide, formSh_1 hK sys big turns, by rw [ptsForm_length, hgd]; have : ps.length = 1 := e2; omega⟩
  · exact ⟨2, _, hK, by decide, by decide, by rw [formSh_2 hK, List.append_assoc], by rw [List.length_append, num32_length]; omega⟩
  all_goals
    first
    | (rw [formSh_3 hK]; obtain ⟨F, e, hl⟩ := accB_head (headB 3 sys big) (num32 s.lists.length big) _ s.lists.length; exact ⟨3, F, hK, by decide, by decide, e, by rw [num32_length] at hl; exact hl⟩)
    | (rw [formSh_4 hK]; obtain ⟨F, e, hl⟩ := accB_head (headB 4 sys big) (num32 (s.lists.getD 0 []).length big) _ (s.lists.getD 0 []).length; exact ⟨4, F, hK, by decide, by decide, e, by rw [num32_length] at hl; exact hl⟩)
    | (rw [formSh_5 hK]; obtain ⟨F, e, hl⟩ := accB_head (headB 5 sys big) (num32 s.lists.length big) _ s.lists.length; exact ⟨5, F, hK, by decide, by decide, e, by rw [num32_length] at hl; exact hl⟩)
    | (rw [formSh_6 hK]; obtain ⟨F, e, hl⟩ := accB_head (headB 6 sys big) (num32 s.parts.length big) _ s.parts.length; exact ⟨6, F, hK, by decide, by decide, e, by rw [num32_length] at hl; exact hl⟩)
    | (rw [formSh_7 hK]; obtain ⟨F, e, hl⟩ := accB_head (headB 7 sys big) (num32 s.parts.length big) _ s.parts.length; exact ⟨7, F, hK, by decide, by decide, e, by rw [num32_length] at hl; exact hl⟩)

/-- what Unmarshal does with a collection's bytes -/
def ColU (b : Bool) (d : Nat) (s : Sh) (v : Value) (w : World) : Prop := s.kind = 7 → ∀ w', Kp w w' → Calls Tryz.prog 48 #[v] w' (RetSc b w' (fun lo hi w v => GeoB (d + 1) lo hi w v s) .nilIface 0)

theorem unForm_c (b : Bool) (d : Nat) (s : Sh) (hok : cntOk (d + 1) s = true) (hsm : Small (d + 1) s) (hbits : BitsSh (d + 1) s) (big turns : Bool) (r bs : List Nat) (hP : PreB b (formSh (d + 1) s 0 big turns) r bs) (a : Option Addr) (n c : Nat) (hnl : n = bs.length) (hnc : n ≤ c) (hm : n ≤ 1000000000000) (w : World) (hB : BytesO w a bs) (hG : Gls w)
    (h7 : 6 ≤ n → ColU b d s (.slice a n c) w) :
    Calls Tryz.prog 48 #[.slice a n c] w (RetSc b w (fun lo hi w v => GeoB (d + 1) lo hi w v s) .nilIface 0) := by
  obtain ⟨kk, F, hkk, hk1, hk7, hF, hF4⟩ := form_split d s hok 0 big turns
  rw [hF] at hP
  rcases hP.head (by rw [headB_length]; rfl) (by omega) with ⟨rfl, hl⟩ | ⟨h6, r2, rfl, hP2⟩
  · exact (un_err _ w (ubot_err _ w (bot_short a n c (by omega) w hG.notW))).mono fun e w' h => ⟨nofun, fun _ => h⟩
  · by_cases hK : s.kind = 7
    · exact h7 (by omega) hK w (Kp.refl w)
    · subst hnl
      obtain ⟨g, off, rfl, hg, hb⟩ := hB.at (by omega)
      obtain ⟨q1, q2, q3⟩ := ubot_at kk (by omega) big r2 g off _ c rfl h6 hnc w hg hb
      exact unBody_c b d s hok hsm hbits hK kk hkk 0 big turns F r hF r2 hP2 _ (some ⟨g, off + 5, none⟩) _ (c - 5) q3 (by omega) (by omega) w q2 hG 0 q1
theorem geo_mono (d : Nat) (s : Sh) : ∀ lo lo' hi w v, lo' ≤ lo → GeoB d lo hi w v s → GeoB d lo' hi w v s := fun _ _ _ _ _ h g => GeoB.mono g h (Nat.le_refl _)
theorem decForm_c (b : Bool) (d : Nat) (s : Sh) (hok : cntOk (d + 1) s = true) (hsm : Small (d + 1) s) (hbits : BitsSh (d + 1) s) (big turns : Bool) (r bs : List Nat) (hP : PreB b (formSh (d + 1) s 0 big turns) r bs) (a : Option Addr) (n c : Nat) (hnl : n = bs.length) (hnc : n ≤ c) (hm : n ≤ 1000000000000) (w : World) (hB : BytesO w a bs) (hG : Gls w)
    (h7 : 6 ≤ n → ColU b d s (.slice a n c) w) :
    Calls Tryz.prog 14 #[.slice a n c] w (RetDec b (d + 1) s w) :=
  decode_c b (d + 1) s _ w (fun w' hk => wkbUn_c b 0 _ w' _ (geo_mono (d + 1) s) (hG.kp hk) (unForm_c b d s hok hsm hbits big turns r bs hP a n c hnl hnc hm w' (hB.kp hk) (hG.kp hk) (fun h6 hK w2 hk2 => h7 h6 hK w2 (hk.trans hk2))))
    (fun lo hi v w' hg => shapeOf_c (d + 1) s lo hi v w' hg hok hsm)
/-- .. and of bytes that have no head, or a wrong one -/
theorem decBad_c (d : Nat) (s : Sh) (v : Value) (w : World) (hG : Gls w) (h : ∀ w', Kp w w' → Calls Tryz.prog 48 #[v] w' (RetErr w' fun v => .tuple #[.nilIface, .int .i64 0, v])) (hok : cntOk d s = true) (hsm : Small d s) :
    Calls Tryz.prog 14 #[v] w (RetDec false d s w) :=
  decode_c false d s _ w (fun w' hk => wkbUn_c false 0 _ w' _ (geo_mono d s) (hG.kp hk) ((h w' hk).mono fun e w2 h => ⟨nofun, fun _ => h⟩))
    (fun lo hi v w' hg => shapeOf_c d s lo hi v w' hg hok hsm)
end Go.Proofs.YtobdohhabgnjiaaGreatDoor
