/-
  impl.polygonOf: lists of points in memory as a polygon of the call's own.
  impl.polygonOf, impl.first, impl.geometry: a shape as a geometry in new memory.
-/
import Derived.Test.YtohidpmkoehmcaaGreatDoorLine
import Derived.Test.YtohidpmkoehmcaaGreatDoorGeo
set_option linter.all false
namespace Go.Proofs.YtohidpmkoehmcaaGreatDoor
open PubFl Go.RowKit

attribute [local go_sem] cell_ext frozen_ext ext_setCell cell_store size_ext_eq lt_p0 lt_p1 lt_p2 lt_p3 lt_p4 lt_p5 lt_p6 lt_p7 lt_p8 lt_p9 lt_p10 lt_p11 lt_p12 lt_p13 lt_p14 lt_p15 lt_p16 lt_p17 lt_p18 lt_p19 lt_p20 lt_p21 lt_p22 lt_p23 lt_p24 lt_p25 lt_p26 lt_p27 lt_p28 lt_p29 lt_p30 lt_p31 lt_p32 lt_q1 lt_q2 lt_q3 lt_q4 lt_q5 lt_q6 lt_q7 lt_q8 lt_q9 lt_q10 lt_q11 lt_q12 lt_q13 lt_q14 lt_q15 lt_q16 lt_q17 lt_q18 lt_q19 lt_q20 lt_q21 lt_q22 lt_q23 lt_q24 lt_q25 lt_q26 lt_q27 lt_q28 lt_q29 lt_q30 lt_q31 lt_q32 run_fop run_store_float
attribute [local go_sem high] cmp_eql cmp_neq cmp_lss cmp_leq cmp_gtr cmp_geq

/-- lists of points lie in memory from here on -/
def ListsAt (w : World) (L off : Nat) (lss : List (List (Nat × Nat))) : Prop :=
  ∀ (i : Nat) (h : i < lss.length), ∃ a cap, w.cell? ⟨L, off + i, none⟩ = some (.slice a (lss[i]'h).length cap) ∧ PtsIn w a (lss[i]'h)
theorem PtsIn.kp' {w w' : World} {a : Option Addr} {ps : List (Nat × Nat)} (hs : PtsIn w a ps) (hk : Kp w w') : PtsIn w' a ps := by
  rcases hs with h | ⟨b, off, rfl, hb, hpt⟩
  · exact .inl h
  · exact .inr ⟨b, off, rfl, Nat.lt_of_lt_of_le hb hk.size, hpt.kp hb hk⟩
theorem ListsAt.kp {w w' : World} {L off : Nat} {lss : List (List (Nat × Nat))} (h : ListsAt w L off lss) (hL : L < w.heap.size) (k : Kp w w') : ListsAt w' L off lss := fun i hi => by
  obtain ⟨a, cap, hc, hp⟩ := h i hi
  exact ⟨a, cap, Kp.cell k hc hL, hp.kp' k⟩
def ListsIn (w : World) (a : Option Addr) (lss : List (List (Nat × Nat))) : Prop := lss = [] ∨ ∃ L off, a = some ⟨L, off, none⟩ ∧ L < w.heap.size ∧ ListsAt w L off lss

/-- rows of two types are apart -/
theorem own_apart {w : World} {base base' : Nat} {e e' : TypeId} {size size' : Nat} {v v' : Value} {n n' : Nat} {xs xs' : List Value} (h : w.ownsRow base e size v n xs) (h' : w.ownsRow base' e' size' v' n' xs') (hne : e ≠ e') :
    v.ownBlock = none ∨ v.ownBlock ≠ v'.ownBlock := by
  obtain ⟨_, h⟩ := h
  obtain ⟨_, h'⟩ := h'
  rcases h with ⟨rfl, _⟩ | ⟨g, cap, cur, rfl, _, hg, _⟩
  · exact .inl rfl
  · rcases h' with ⟨rfl, _⟩ | ⟨g', cap', cur', rfl, _, hg', _⟩
    · exact .inr (by simp [Value.ownBlock])
    · refine .inr fun hh => ?_
      have hh' : g = g' := by simpa [Value.ownBlock] using hh
      subst hh'
      rw [hg] at hg'
      cases hg'
      exact hne rfl
theorem own_kp {w w' : World} {base : Nat} {e : TypeId} {size : Nat} {v : Value} {n : Nat} {xs : List Value} (h : w.ownsRow base e size v n xs) (k : Kp w w') : w'.ownsRow base e size v n xs := by
  obtain ⟨hl, h⟩ := h
  refine ⟨hl, ?_⟩
  rcases h with h | ⟨g, cap, cur, hv, hb, hg, h1⟩
  · exact .inl h
  · refine .inr ⟨g, cap, cur, hv, hb, ?_, h1⟩
    have hlt : g < w.heap.size := by
      rcases Nat.lt_or_ge g w.heap.size with c | c
      · exact c
      · rw [Array.getElem?_eq_none c] at hg; cases hg
    rw [k.block g hlt]; exact hg
theorem own_base {w : World} {base base' : Nat} {e : TypeId} {size : Nat} {v : Value} {n : Nat} {xs : List Value} (h : w.ownsRow base e size v n xs) (hb : base' ≤ base) : w.ownsRow base' e size v n xs := by
  obtain ⟨hl, h⟩ := h
  refine ⟨hl, ?_⟩
  rcases h with h | ⟨g, cap, cur, hv, hb', h1⟩
  · exact .inl h
  · exact .inr ⟨g, cap, cur, hv, Nat.le_trans hb hb', h1⟩

/-- a polygon that the call made: a row of rings, each a row of points -/
def RingsNew (w w' : World) (vs : List Value) (lss : List (List (Nat × Nat))) (k : Nat) : Prop := vs.length = k ∧ ∀ (i : Nat) (h : i < k) (h' : i < lss.length), ∃ v, vs[i]? = some v ∧ PtsNew w w' 57 v (lss[i]'h')
def PolyNew (w w' : World) (v : Value) (lss : List (List (Nat × Nat))) : Prop := ∃ vs, w'.ownsRow w.heap.size 53 1 v lss.length vs ∧ RingsNew w w' vs lss lss.length

theorem infoRing : (Tryz.prog.info? 53).map (fun i => (i.zero, i.size, i.bytes)) = some (some (.slice none 0 0), 1, 24) := by kernel_rfl

set_option maxRecDepth 20000 in
set_option maxHeartbeats 1000000 in
theorem polygonOf_c (a : Option Addr) (cap : Nat) (kd P : Value) (lss : List (List (Nat × Nat))) (hn : lss.length ≤ 2147483647) (hns : ∀ l ∈ lss, l.length ≤ 2147483647) (w : World) (hs : ListsIn w a lss) :
    Calls Tryz.prog 29 #[.agg #[kd, .slice a lss.length cap, P]] w (fun e w' => ∃ v u, e = .returned v ∧ w' = ext w u ∧ PolyNew w w' v lss) := by
  obtain ⟨i0, hi, hz0, hz1, hz2⟩ := info_parts infoRing
  have Hs := Lib.hid hs
  have Hns := Lib.hid hns
  clear hs hns
  go_enter Tryz.func29, Tryz.ntmps29
  go_wp2_with fail
  go_loopw [3, 10] (fun s3 s10 wr => ∃ (k : Nat) (vs : List Value), k ≤ lss.length ∧ s10 = .int .i64 k ∧ Kp w wr ∧ wr.ownsRow w.heap.size 53 1 s3 k vs ∧ RingsNew w wr vs lss k) (fun _ s10 _ => lss.length - (intOf s10).toNat)
  case atStart =>
    have h := World.ownsRow_lit (base := w.heap.size) (e := 53) (size := 1) (w.alloc (.cells #[kd, .slice a lss.length cap, P] 25)) #[] 0 (by simp) (by decide) rfl
    rw [World.size_alloc] at h
    exact ⟨0, [], by omega, rfl, (by repeat (first | (with_reducible exact Kp.refl _) | (with_reducible assumption) | (with_reducible apply Kp.ext) | (with_reducible apply Kp.alloc) | (with_reducible apply Kp.drew) | (with_reducible apply Kp.drewN) | (with_reducible refine Kp.setCell ?_ (by first | (dsimp only; omega) | (simp; omega) | (simp; done) | (simp [size_ext_eq]; omega)) _))), h, rfl, fun i h => by omega⟩
  case round =>
    obtain ⟨k, vs, hkn, rfl, hkp, hown, hrings⟩ := hrel
    by_cases hlt : k < lss.length
    · obtain ⟨L, off, rfl, hL, hls⟩ : ∃ L off, a = some ⟨L, off, none⟩ ∧ L < w.heap.size ∧ ListsAt w L off lss := by
        rcases Hs.out with h | h
        · subst h; simp at hlt
        · exact h
      obtain ⟨a', cap', hc, hin⟩ := hls k hlt
      have hc' := Kp.cell hkp hc hL
      have hp := Lib.hid (fun w' (hk : Kp w w') => pointsOf_c a' cap' (lss[k]'hlt) (Hns.out _ (List.getElem_mem hlt)) w' (hin.kp' hk))
      have hLr : L < wr.heap.size := Nat.lt_of_lt_of_le hL hkp.size
      have hsz := hkp.size
      obtain ⟨hvl, hrg⟩ := hrings
      have Hrg := Lib.hid hrg
      have Hls := Lib.hid hls
      clear hls hin hrg hc
      go_wp2_with (first | (go_at_call 26; (with_reducible refine (hp.out _ (by repeat (first | (with_reducible exact Kp.refl _) | (with_reducible assumption) | (with_reducible apply Kp.ext) | (with_reducible apply Kp.alloc) | (with_reducible apply Kp.drew) | (with_reducible apply Kp.drewN) | (with_reducible refine Kp.setCell ?_ (by first | (dsimp only; omega) | (simp; omega) | (simp; done) | (simp [size_ext_eq]; omega)) _)))).mono ?_); rintro e w1 ⟨v, u, rfl, rfl, hnew⟩; obtain ⟨a2, cap2, rfl⟩ := hnew.empty) | (at_builtin; refine wpList_append_own _ rfl (.tmp 14) (.tmp 17) 61 rfl w.heap.size 53 i0 (.slice none 0 0) 1 24 Tryz.underlying61 hi hz0 hz1 hz2 rfl (by decide) _ k _ rfl ((own_kp hown (show Kp wr (ext wr u) from (Kp.refl _).ext u)).alloc _) ⟨wr.heap.size + dz wr.heap.size u, 0, none⟩ 1 1 [.slice a2 (lss[k]'hlt).length cap2] rfl rfl ?c1 ?c2 ?c3 ?c4 ?c5 ?_))
      case c1 =>
        intro j u' hu
        cases j with
        | zero =>
          have e : u' = .slice a2 (lss[k]'hlt).length cap2 := by simpa using hu.symm
          subst e
          rw [← size_ext_eq]
          simp [Addr.add]
        | succ j => simp at hu
      case c2 => exact fun u hu => by simp at hu; subst hu; rfl
      case c3 => unfold maxLen; omega
      case c4 => omega
      case c5 => simp [size_ext_eq]; omega
      intro v' w1 hown1 hgrow1 _
      have hk1 : Kp w w1 := Below.grown ((hkp.ext _).alloc _) hgrow1 (by simp [size_ext_eq]; omega) (fun q hq => (hown.lt q hq).1)
      have hR : RingsNew w w1 (vs ++ [.slice a2 (lss[k]'hlt).length cap2]) lss (k + 1) := by
        refine ⟨by simp [hvl], fun i hi hi' => ?_⟩
        by_cases c : i = k
        · subst c
          refine ⟨.slice a2 (lss[i]'hi').length cap2, by rw [List.getElem?_append_right (by omega)]; simp [hvl], ?_⟩
          have h0 := own_kp hnew (show Kp (ext wr u) ((ext wr u).alloc (.cells #[.slice a2 (lss[i]'hi').length cap2] 53)) from (Kp.refl _).alloc _)
          have h2 := h0.kept hgrow1 (own_apart h0 ((own_kp hown (show Kp wr (ext wr u) from (Kp.refl _).ext u)).alloc _) (by decide))
          exact own_base h2 hsz
        · obtain ⟨v, hv, hn⟩ := Hrg.out i (by omega) hi'
          refine ⟨v, by rw [List.getElem?_append_left (by omega)]; exact hv, ?_⟩
          have h1 := own_kp hn (show Kp wr ((ext wr u).alloc (.cells #[.slice a2 (lss[k]'hlt).length cap2] 53)) from ((Kp.refl _).ext u).alloc _)
          exact h1.kept hgrow1 (own_apart h1 ((own_kp hown (show Kp wr (ext wr u) from (Kp.refl _).ext u)).alloc _) (by decide))
      have HR := Lib.hid hR
      clear hR
      go_wp2_with fail
      go_roundw
      case rel => exact ⟨k + 1, _, by omega, by go_num, hk1, hown1, HR.out⟩
      case measure => simp [intOf]; omega
    · obtain rfl : k = lss.length := by omega
      have Hr := Lib.hid hrings
      clear hrings
      go_wp2_with fail
      go_ret
      exact ⟨_, _, rfl, ext_of (show Kp w _ from (by repeat (first | (with_reducible exact Kp.refl _) | (with_reducible assumption) | (with_reducible apply Kp.ext) | (with_reducible apply Kp.alloc) | (with_reducible apply Kp.drew) | (with_reducible apply Kp.drewN) | (with_reducible refine Kp.setCell ?_ (by first | (dsimp only; omega) | (simp; omega) | (simp; done) | (simp [size_ext_eq]; omega)) _)))), vs, hown, Hr.out⟩
end Go.Proofs.YtohidpmkoehmcaaGreatDoor

set_option linter.all false
namespace Go.Proofs.YtohidpmkoehmcaaGreatDoor
open PubFl Go.RowKit

attribute [local go_sem] cell_ext frozen_ext ext_setCell cell_store size_ext_eq lt_p0 lt_p1 lt_p2 lt_p3 lt_p4 lt_p5 lt_p6 lt_p7 lt_p8 lt_p9 lt_p10 lt_p11 lt_p12 lt_p13 lt_p14 lt_p15 lt_p16 lt_p17 lt_p18 lt_p19 lt_p20 lt_p21 lt_p22 lt_p23 lt_p24 lt_p25 lt_p26 lt_p27 lt_p28 lt_p29 lt_p30 lt_p31 lt_p32 lt_q1 lt_q2 lt_q3 lt_q4 lt_q5 lt_q6 lt_q7 lt_q8 lt_q9 lt_q10 lt_q11 lt_q12 lt_q13 lt_q14 lt_q15 lt_q16 lt_q17 lt_q18 lt_q19 lt_q20 lt_q21 lt_q22 lt_q23 lt_q24 lt_q25 lt_q26 lt_q27 lt_q28 lt_q29 lt_q30 lt_q31 lt_q32 run_fop run_store_float
attribute [local go_sem high] cmp_eql cmp_neq cmp_lss cmp_leq cmp_gtr cmp_geq

theorem getD_ls (ls : List (List (Nat × Nat))) (i : Nat) (h : i < ls.length) : ls.getD i [] = ls[i]'h := by
  rw [List.getD_eq_getElem?_getD, List.getElem?_eq_getElem h]; rfl
theorem getD_sh (qs : List Sh) (i : Nat) (h : i < qs.length) : qs.getD i dsh = qs[i]'h := by
  rw [List.getD_eq_getElem?_getD, List.getElem?_eq_getElem h]; rfl
theorem infoRing' : (Tryz.prog.info? 53).map (fun i => (i.zero, i.size, i.bytes)) = some (some (.slice none 0 0), 1, 24) := by kernel_rfl
theorem infoLS : (Tryz.prog.info? 59).map (fun i => (i.zero, i.size, i.bytes)) = some (some (.slice none 0 0), 1, 24) := by kernel_rfl
theorem infoPg : (Tryz.prog.info? 61).map (fun i => (i.zero, i.size, i.bytes)) = some (some (.slice none 0 0), 1, 24) := by kernel_rfl
theorem infoGeom : (Tryz.prog.info? 41).map (fun i => (i.zero, i.size, i.bytes)) = some (some .nilIface, 1, 16) := by kernel_rfl

set_option maxRecDepth 20000 in
set_option maxHeartbeats 1000000 in
theorem polygonB_c (a : Option Addr) (cap : Nat) (kd pv : Value) (ls : List (List (Nat × Nat))) (hn : ls.length ≤ 1000) (hns : ∀ l ∈ ls, l.length ≤ 300) (w : World) (hs : LissIn w (.slice a ls.length cap) ls) :
    Calls Tryz.prog 29 #[.agg #[kd, .slice a ls.length cap, pv]] w (RetB w fun lo hi w v => ListsB ls lo hi w v) := by
  obtain ⟨i0, hi, hz0, hz1, hz2⟩ := info_parts infoRing'
  obtain ⟨a0, c0, hv, _, hget⟩ := hs.get
  obtain ⟨rfl, rfl⟩ : _ ∧ _ := by simpa using hv
  have Hget := Lib.hid hget
  have Hns := Lib.hid hns
  clear hs hns hget hv
  go_enter Tryz.func29, Tryz.ntmps29
  go_wp2_with fail
  go_loopw [3, 10] (fun s3 s10 wr => ∃ (k : Nat) (xs : List Value), k ≤ ls.length ∧ s10 = .int .i64 k ∧ Kp w wr ∧ RowsP (ListE ls) 53 w.heap.size wr s3 k xs) (fun _ s10 _ => ls.length - (intOf s10).toNat)
  case atStart =>
    have h := RowsP.start (ListE ls) 53 (L := w.heap.size) (w := w.alloc (.cells #[kd, .slice a ls.length cap, pv] 25)) (by simp)
    rw [World.size_alloc] at h
    exact ⟨0, [], by omega, rfl, (by repeat (first | (with_reducible exact Kp.refl _) | (with_reducible assumption) | (with_reducible apply Kp.ext) | (with_reducible apply Kp.alloc) | (with_reducible apply Kp.drew) | (with_reducible apply Kp.drewN) | (with_reducible refine Kp.setCell ?_ (by first | (dsimp only; omega) | (simp; omega) | (simp; done) | (simp [size_ext_eq]; omega)) _))), h⟩
  case round =>
    obtain ⟨k, xs, hkn, rfl, hkp, hrow⟩ := hrel
    by_cases hlt : k < ls.length
    · obtain ⟨L, off, a', cap', rfl, hL, hc, _, hin, _⟩ := Hget.out k hlt
      have hc' := Kp.cell hkp hc hL
      have hls := Hns.out _ (List.getElem_mem hlt)
      have hE : ListE ls k = fun l h w x => PtsB l h w x (ls[k]'hlt) := by unfold ListE; rw [getD_ls _ _ hlt]
      have HE := Lib.hid hE
      have hp := Lib.hid (fun w' (hk : Kp w w') => pointsB_c a' cap' (ls[k]'hlt) (by omega) w' (hin.kp hk))
      have hLr : L < wr.heap.size := Nat.lt_of_lt_of_le hL hkp.size
      have hsz := hkp.size
      obtain ⟨l1, hl1⟩ : ∃ l, (ls[k]'hlt).length = l := ⟨_, rfl⟩
      rw [hl1] at hc' hp
      have Hl1 := Lib.hid hl1
      have Hrow := Lib.hid hrow
      have hown := hrow.own
      clear hin hc hls hE hl1 hrow
      go_wp2_with (first | (go_at_call 26; (with_reducible refine (hp.out _ (by repeat (first | (with_reducible exact Kp.refl _) | (with_reducible assumption) | (with_reducible apply Kp.ext) | (with_reducible apply Kp.alloc) | (with_reducible apply Kp.drew) | (with_reducible apply Kp.drewN) | (with_reducible refine Kp.setCell ?_ (by first | (dsimp only; omega) | (simp; omega) | (simp; done) | (simp [size_ext_eq]; omega)) _)))).mono ?_); rintro e w1 ⟨v, u, rfl, rfl, hpb⟩; obtain ⟨g2, cap2, hv2, hpb'⟩ := id hpb; rw [Hl1.out] at hv2; subst hv2; have Hpb := Lib.hid hpb; clear hpb hpb') | (at_builtin; refine wpList_append_own2 _ rfl (.tmp 14) (.tmp 17) 61 rfl w.heap.size 53 i0 (.slice none 0 0) 1 24 Tryz.underlying61 hi hz0 hz1 hz2 rfl (by decide) _ k _ rfl ((own_kp hown (by repeat (first | (with_reducible exact Kp.refl _) | (with_reducible assumption) | (with_reducible apply Kp.ext) | (with_reducible apply Kp.alloc) | (with_reducible apply Kp.drew) | (with_reducible apply Kp.drewN) | (with_reducible refine Kp.setCell ?_ (by first | (dsimp only; omega) | (simp; omega) | (simp; done) | (simp [size_ext_eq]; omega)) _)))).alloc _) _ 1 1 [.slice (some ⟨g2, 0, none⟩) l1 cap2] rfl rfl ?c1 ?c2 ?c3 ?c4 ?c5 ?_))
      case c1 => exact lit1 (by simp [size_ext_eq])
      case c2 => exact fun u hu => by simp at hu; subst hu; rfl
      case c3 => unfold maxLen; omega
      case c4 => omega
      case c5 => simp [size_ext_eq]; omega
      intro v' w1 hown1 hgrow1 hblk
      have hk1 : Kp w w1 := Below.grown ((hkp.ext _).alloc _) hgrow1 (by simp [size_ext_eq]; omega) (fun q hq => (hown.lt q hq).1)
      have hk2 := (Kp.refl (ext wr u)).alloc (.cells #[.slice (some ⟨g2, 0, none⟩) l1 cap2] 53)
      have hx : ListE ls k wr.heap.size (ext wr u).heap.size ((ext wr u).alloc (.cells #[.slice (some ⟨g2, 0, none⟩) l1 cap2] 53)) (.slice (some ⟨g2, 0, none⟩) l1 cap2) := by
        rw [HE.out]
        exact Hpb.out.keep (Agree.of_kp hk2 (Nat.le_refl _))
      have HR := Lib.hid (RowsP.step (keep_list ls) Hrow.out (show Kp wr _ from (by repeat (first | (with_reducible exact Kp.refl _) | (with_reducible assumption) | (with_reducible apply Kp.ext) | (with_reducible apply Kp.alloc) | (with_reducible apply Kp.drew) | (with_reducible apply Kp.drewN) | (with_reducible refine Kp.setCell ?_ (by first | (dsimp only; omega) | (simp; omega) | (simp; done) | (simp [size_ext_eq]; omega)) _)))) hx hsz (Nat.le_refl _) (by simp) hown1 hgrow1 (by simpa [size_ext_eq] using hblk))
      clear hown1 hgrow1 hblk hx hown hk2
      go_wp2_with fail
      go_roundw
      case rel => exact ⟨k + 1, _, by omega, by go_num, hk1, HR.out⟩
      case measure => simp [intOf]; omega
    · obtain rfl : k = ls.length := by omega
      have Hr := Lib.hid hrow.done
      clear hrow
      go_wp2_with fail
      go_ret
      exact ⟨_, _, rfl, ext_of hkp, Hr.out⟩

/-- impl.first of a shape of lists -/
theorem first_c (kd pv : Value) (ls : List (List (Nat × Nat))) (a : Option Addr) (cap L off : Nat) (a' : Option Addr) (n' cap' : Nat) (ha : a = some ⟨L, off, none⟩) (h0 : 0 < ls.length) (w : World) (hL : L < w.heap.size) (hc : w.cell? ⟨L, off, none⟩ = some (.slice a' n' cap')) :
    Calls Tryz.prog 28 #[.agg #[kd, .slice a ls.length cap, pv]] w (Ret w (.slice a' n' cap')) := by
  subst ha
  have e1 : (ls.length = 0) = False := eq_false (by omega)
  have e2 : (ls.length == 0) = false := beq_eq_false_iff_ne.2 (by omega)
  have e3 : (0 : Int) < (ls.length : Int) := by omega
  go_enter Tryz.func28, Tryz.ntmps28
  go_wp2_with fail
  go_ret
  exact Ret.mk rfl (by repeat (first | (with_reducible exact Kp.refl _) | (with_reducible assumption) | (with_reducible apply Kp.ext) | (with_reducible apply Kp.alloc) | (with_reducible apply Kp.drew) | (with_reducible apply Kp.drewN) | (with_reducible refine Kp.setCell ?_ (by first | (dsimp only; omega) | (simp; omega) | (simp; done) | (simp [size_ext_eq]; omega)) _)))
end Go.Proofs.YtohidpmkoehmcaaGreatDoor
