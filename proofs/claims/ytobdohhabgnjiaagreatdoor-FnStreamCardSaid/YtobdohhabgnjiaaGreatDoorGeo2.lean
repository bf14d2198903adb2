/-
  impl.polygonOf, impl.first, impl.geometry: a shape as a geometry in new memory.
-/
import Derived.Test.YtobdohhabgnjiaaGreatDoorGeo
import Derived.Test.YtobdohhabgnjiaaGreatDoorPoly
set_option linter.all false
namespace Go.Proofs.YtobdohhabgnjiaaGreatDoor
open PubFl Go.RowKit

attribute [local go_sem] cell_ext frozen_ext ext_setCell cell_store size_ext_eq lt_p0 lt_p1 lt_p2 lt_p3 lt_p4 lt_p5 lt_p6 lt_p7 lt_p8 lt_p9 lt_p10 lt_p11 lt_p12 lt_p13 lt_p14 lt_p15 lt_p16 lt_p17 lt_p18 lt_p19 lt_p20 lt_p21 lt_p22 lt_p23 lt_p24 lt_p25 lt_p26 lt_p27 lt_p28 lt_p29 lt_p30 lt_p31 lt_p32 lt_q1 lt_q2 lt_q3 lt_q4 lt_q5 lt_q6 lt_q7 lt_q8 lt_q9 lt_q10 lt_q11 lt_q12 lt_q13 lt_q14 lt_q15 lt_q16 lt_q17 lt_q18 lt_q19 lt_q20 lt_q21 lt_q22 lt_q23 lt_q24 lt_q25 lt_q26 lt_q27 lt_q28 lt_q29 lt_q30 lt_q31 lt_q32 run_fop run_store_float
attribute [local go_sem high] cmp_eql cmp_neq cmp_lss cmp_leq cmp_gtr cmp_geq

theorem getD_ls (ls : List (List (Nat × Nat))) (i : Nat) (h : i < ls.length) : ls.getD i [] = ls[i]'h := by
  rw [List.getD_eq_getElem?_getD, List.getElem?_eq_getElem h]; rfl
theorem getD_sh (qs : List Sh) (i : Nat) (h : i < qs.length) : qs.getD i dsh = qs[i]'h := by
  rw [List.getD_eq_getElem?_getD, List.getElem?_eq_getElem h]; rfl
theorem infoRing' : (Tryz.prog.info? 126).map (fun i => (i.zero, i.size, i.bytes)) = some (some (.slice none 0 0), 1, 24) := by kernel_rfl
theorem infoLS : (Tryz.prog.info? 91).map (fun i => (i.zero, i.size, i.bytes)) = some (some (.slice none 0 0), 1, 24) := by kernel_rfl
theorem infoPg : (Tryz.prog.info? 93).map (fun i => (i.zero, i.size, i.bytes)) = some (some (.slice none 0 0), 1, 24) := by kernel_rfl
theorem infoGeom : (Tryz.prog.info? 52).map (fun i => (i.zero, i.size, i.bytes)) = some (some .nilIface, 1, 16) := by kernel_rfl

set_option maxRecDepth 20000 in
set_option maxHeartbeats 1000000 in
theorem polygonB_c (a : Option Addr) (cap : Nat) (kd pv : Value) (ls : List (List (Nat × Nat))) (hn : ls.length ≤ 1000) (hns : ∀ l ∈ ls, l.length ≤ 300) (w : World) (hs : LissIn w (.slice a ls.length cap) ls) :
    Calls Tryz.prog 36 #[.agg #[kd, .slice a ls.length cap, pv]] w (RetB w fun lo hi w v => ListsB ls lo hi w v) := by
  obtain ⟨i0, hi, hz0, hz1, hz2⟩ := info_parts infoRing'
  obtain ⟨a0, c0, hv, _, hget⟩ := hs.get
  obtain ⟨rfl, rfl⟩ : _ ∧ _ := by simpa using hv
  have Hget := Lib.hid hget
  have Hns := Lib.hid hns
  clear hs hns hget hv
  go_enter Tryz.func36, Tryz.ntmps36
  go_wp2_with fail
  go_loopw [3, 10] (fun s3 s10 wr => ∃ (k : Nat) (xs : List Value), k ≤ ls.length ∧ s10 = .int .i64 k ∧ Kp w wr ∧ RowsP (ListE ls) 126 w.heap.size wr s3 k xs) (fun _ s10 _ => ls.length - (intOf s10).toNat)
  case atStart =>
    have h := RowsP.start (ListE ls) 126 (L := w.heap.size) (w := w.alloc (.cells #[kd, .slice a ls.length cap, pv] 30)) (by simp)
    rw [World.size_alloc] at h
    exact ⟨0, [], by omega, rfl, (by repeat (first | (with_reducible exact Kp.refl _) | (with_reducible assumption) | (with_reducible apply Kp.ext) | (with_reducible apply Kp.alloc) | (with_reducible apply Kp.drew) | (with_reducible apply Kp.drewN) | (with_reducible refine Kp.setCell ?_ (by first | (dsimp only; omega) | (simp; omega) | (simp; done) | (simp [size_ext_eq]; omega)) _))), h⟩
  case round =>
    obtain ⟨k, xs, hkn, rfl, hkp, hrow⟩ := hrel
    by_cases hlt : k < ls.length
    · obtain ⟨L, off, a', cap', rfl, hL, hc, _, hin, _⟩ := Hget.out k hlt
      have hc' := Kp.cell hkp hc hL
      have hls := Hns.out _ (List.getElem_mem hlt)
      have hE : ListE ls k = fun l h w x => PtsB l h w x (ls[k]'hlt) := by unfold ListE; rw [getD_ls _ _ hlt]
      have HE := Lib.hid hE
      have hp := Lib.hid (fun w' (hk : Kp w w') => pointsB_c a' cap' (ls[k]'hlt) (by omega) w' (hin.kp hk))
      have hLr : L < wr.heap.size := Nat.lt_of_lt_of_le hL hkp.size
      have hsz := hkp.size
      obtain ⟨l1, hl1⟩ : ∃ l, (ls[k]'hlt).length = l := ⟨_, rfl⟩
      rw [hl1] at hc' hp
      have Hl1 := Lib.hid hl1
      have Hrow := Lib.hid hrow
      have hown := hrow.own
      clear hin hc hls hE hl1 hrow
      go_wp2_with (first | (go_at_call 35; (with_reducible refine (hp.out _ (by repeat (first | (with_reducible exact Kp.refl _) | (with_reducible assumption) | (with_reducible apply Kp.ext) | (with_reducible apply Kp.alloc) | (with_reducible apply Kp.drew) | (with_reducible apply Kp.drewN) | (with_reducible refine Kp.setCell ?_ (by first | (dsimp only; omega) | (simp; omega) | (simp; done) | (simp [size_ext_eq]; omega)) _)))).mono ?_); rintro e w1 ⟨v, u, rfl, rfl, hpb⟩; obtain ⟨g2, cap2, hv2, hpb'⟩ := id hpb; rw [Hl1.out] at hv2; subst hv2; have Hpb := Lib.hid hpb; clear hpb hpb') | (at_builtin; refine wpList_append_own2 _ rfl (.tmp 14) (.tmp 17) 93 rfl w.heap.size 126 i0 (.slice none 0 0) 1 24 Tryz.underlying93 hi hz0 hz1 hz2 rfl (by decide) _ k _ rfl ((own_kp hown (by repeat (first | (with_reducible exact Kp.refl _) | (with_reducible assumption) | (with_reducible apply Kp.ext) | (with_reducible apply Kp.alloc) | (with_reducible apply Kp.drew) | (with_reducible apply Kp.drewN) | (with_reducible refine Kp.setCell ?_ (by first | (dsimp only; omega) | (simp; omega) | (simp; done) | (simp [size_ext_eq]; omega)) _)))).alloc _) _ 1 1 [.slice (some ⟨g2, 0, none⟩) l1 cap2] rfl rfl ?c1 ?c2 ?c3 ?c4 ?c5 ?_))
      case c1 => exact lit1 (by simp [size_ext_eq])
      case c2 => exact fun u hu => by simp at hu; subst hu; rfl
      case c3 => unfold maxLen; omega
      case c4 => omega
      case c5 => simp [size_ext_eq]; omega
      intro v' w1 hown1 hgrow1 hblk
      have hk1 : Kp w w1 := Below.grown ((hkp.ext _).alloc _) hgrow1 (by simp [size_ext_eq]; omega) (fun q hq => (hown.lt q hq).1)
      have hk2 := (Kp.refl (ext wr u)).alloc (.cells #[.slice (some ⟨g2, 0, none⟩) l1 cap2] 126)
      have hx : ListE ls k wr.heap.size (ext wr u).heap.size ((ext wr u).alloc (.cells #[.slice (some ⟨g2, 0, none⟩) l1 cap2] 126)) (.slice (some ⟨g2, 0, none⟩) l1 cap2) := by
        rw [HE.out]
        exact Hpb.out.keep (Agree.of_kp hk2 (Nat.le_refl _))
      have HR := Lib.hid (RowsP.step (keep_list ls) Hrow.out (show Kp wr _ from (by repeat (first | (with_reducible exact Kp.refl _) | (with_reducible assumption) | (with_reducible apply Kp.ext) | (with_reducible apply Kp.alloc) | (with_reducible apply Kp.drew) | (with_reducible apply Kp.drewN) | (with_reducible refine Kp.setCell ?_ (by first | (dsimp only; omega) | (simp; omega) | (simp; done) | (simp [size_ext_eq]; omega)) _)))) hx hsz (Nat.le_refl _) (by simp) hown1 hgrow1 (by simpa [size_ext_eq] using hblk))
      clear hown1 hgrow1 hblk hx hown hk2
      go_wp2_with fail
      go_roundw
      case rel => exact ⟨k + 1, _, by omega, by go_num, hk1, HR.out⟩
      case measure => simp [intOf]; omega
    · obtain rfl : k = ls.length := by omega
      have Hr := Lib.hid hrow.done
      clear hrow
      go_wp2_with fail
      go_ret
      exact ⟨_, _, rfl, ext_of hkp, Hr.out⟩

/-- impl.first of a shape of lists -/
theorem first_c (kd pv : Value) (ls : List (List (Nat × Nat))) (a : Option Addr) (cap L off : Nat) (a' : Option Addr) (n' cap' : Nat) (ha : a = some ⟨L, off, none⟩) (h0 : 0 < ls.length) (w : World) (hL : L < w.heap.size) (hc : w.cell? ⟨L, off, none⟩ = some (.slice a' n' cap')) :
    Calls Tryz.prog 34 #[.agg #[kd, .slice a ls.length cap, pv]] w (Ret w (.slice a' n' cap')) := by
  subst ha
  have e1 : (ls.length = 0) = False := eq_false (by omega)
  have e2 : (ls.length == 0) = false := beq_eq_false_iff_ne.2 (by omega)
  have e3 : (0 : Int) < (ls.length : Int) := by omega
  go_enter Tryz.func34, Tryz.ntmps34
  go_wp2_with fail
  go_ret
  exact Ret.mk rfl (by repeat (first | (with_reducible exact Kp.refl _) | (with_reducible assumption) | (with_reducible apply Kp.ext) | (with_reducible apply Kp.alloc) | (with_reducible apply Kp.drew) | (with_reducible apply Kp.drewN) | (with_reducible refine Kp.setCell ?_ (by first | (dsimp only; omega) | (simp; omega) | (simp; done) | (simp [size_ext_eq]; omega)) _)))
end Go.Proofs.YtobdohhabgnjiaaGreatDoor
