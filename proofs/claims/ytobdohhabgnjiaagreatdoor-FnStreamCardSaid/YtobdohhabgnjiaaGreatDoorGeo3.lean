/-
  impl.geometry, walked: a shape as a geometry in new memory.
-/
import Derived.Test.YtobdohhabgnjiaaGreatDoorGeo2
set_option linter.all false
namespace Go.Proofs.YtobdohhabgnjiaaGreatDoor
open PubFl Go.RowKit

attribute [local go_sem] cell_ext frozen_ext ext_setCell cell_store size_ext_eq lt_p0 lt_p1 lt_p2 lt_p3 lt_p4 lt_p5 lt_p6 lt_p7 lt_p8 lt_p9 lt_p10 lt_p11 lt_p12 lt_p13 lt_p14 lt_p15 lt_p16 lt_p17 lt_p18 lt_p19 lt_p20 lt_p21 lt_p22 lt_p23 lt_p24 lt_p25 lt_p26 lt_p27 lt_p28 lt_p29 lt_p30 lt_p31 lt_p32 lt_q1 lt_q2 lt_q3 lt_q4 lt_q5 lt_q6 lt_q7 lt_q8 lt_q9 lt_q10 lt_q11 lt_q12 lt_q13 lt_q14 lt_q15 lt_q16 lt_q17 lt_q18 lt_q19 lt_q20 lt_q21 lt_q22 lt_q23 lt_q24 lt_q25 lt_q26 lt_q27 lt_q28 lt_q29 lt_q30 lt_q31 lt_q32 run_fop run_store_float
attribute [local go_sem high] cmp_eql cmp_neq cmp_lss cmp_leq cmp_gtr cmp_geq

def Small : Nat → Sh → Prop
  | 0, _ => True
  | d + 1, s => (∀ l ∈ s.lists, l.length ≤ 300) ∧ ∀ p ∈ s.parts, Small d p

set_option maxRecDepth 20000 in
set_option maxHeartbeats 1000000 in
theorem geo2 (d : Nat) (s : Sh) (hK : s.kind = 2) (ps : List (Nat × Nat)) (hl : s.lists = [ps]) (hp : s.parts = []) (L off cap : Nat) (pv : Value) (a' : Option Addr) (cap' : Nat) (hn : ps.length ≤ 300) (w : World) (hL : L < w.heap.size)
    (hc : w.cell? ⟨L, off, none⟩ = some (.slice a' ps.length cap')) (hin : PtsIn w a' ps) :
    Calls Tryz.prog 18 #[.agg #[.int .i64 2, .slice (some ⟨L, off, none⟩) 1 cap, pv]] w (RetB w fun lo hi w v => GeoB (d + 1) lo hi w v s) := by
  have hF : ∀ w', Kp w w' → Calls Tryz.prog 34 #[.agg #[.int .i64 2, .slice (some ⟨L, off, none⟩) 1 cap, pv]] w' (Ret w' (.slice a' ps.length cap')) := fun w' hk =>
    first_c (.int .i64 2) pv [ps] (some ⟨L, off, none⟩) cap L off a' ps.length cap' rfl (by simp) w' (Nat.lt_of_lt_of_le hL hk.size) (Kp.cell hk hc hL)
  have hpt := fun w' (hk : Kp w w') => pointsB_c a' cap' ps (by omega) w' (hin.kp hk)
  have HF := Lib.hid hF
  have Hpt := Lib.hid hpt
  have HG := Lib.hid (fun (lo hi : Nat) (w' : World) (u : Value) (h : PtsB lo hi w' u ps) => (show GeoB (d + 1) lo hi w' (.iface 91 u) s from .inr (.inl ⟨hK, ps, u, hl, hp, rfl, h⟩)))
  obtain ⟨n, hnn⟩ : ∃ n, ps.length = n := ⟨_, rfl⟩
  rw [hnn] at HF Hpt
  have Hn := Lib.hid hnn
  clear hF hpt hK hl hp hc hin hnn
  go_enter Tryz.func18, Tryz.ntmps18
  go_wp2_with (first | (go_at_call 34; (first | (with_reducible refine (Ret.at_ext (HF.out _ (by repeat (first | (with_reducible exact Kp.refl _) | (with_reducible assumption) | (with_reducible apply Kp.ext) | (with_reducible apply Kp.alloc) | (with_reducible apply Kp.drew) | (with_reducible apply Kp.drewN) | (with_reducible refine Kp.setCell ?_ (by first | (dsimp only; omega) | (simp; omega) | (simp; done) | (simp [size_ext_eq]; omega)) _))))).mono ?_) | (with_reducible refine (HF.out _ (by repeat (first | (with_reducible exact Kp.refl _) | (with_reducible assumption) | (with_reducible apply Kp.ext) | (with_reducible apply Kp.alloc) | (with_reducible apply Kp.drew) | (with_reducible apply Kp.drewN) | (with_reducible refine Kp.setCell ?_ (by first | (dsimp only; omega) | (simp; omega) | (simp; done) | (simp [size_ext_eq]; omega)) _)))).mono ?_)); rintro e w' ⟨rfl, u, rfl⟩) | (go_at_call 35; (with_reducible refine (Hpt.out _ (by repeat (first | (with_reducible exact Kp.refl _) | (with_reducible assumption) | (with_reducible apply Kp.ext) | (with_reducible apply Kp.alloc) | (with_reducible apply Kp.drew) | (with_reducible apply Kp.drewN) | (with_reducible refine Kp.setCell ?_ (by first | (dsimp only; omega) | (simp; omega) | (simp; done) | (simp [size_ext_eq]; omega)) _)))).mono ?_); rintro e w1 ⟨v, u, rfl, rfl, hpb⟩; obtain ⟨g2, cap2, hv2, _⟩ := id hpb; rw [Hn.out] at hv2; subst hv2; have Hpb := Lib.hid hpb; clear hpb))
  go_ret
  exact ⟨_, _, rfl, ext_of (show Kp w _ from (by repeat (first | (with_reducible exact Kp.refl _) | (with_reducible assumption) | (with_reducible apply Kp.ext) | (with_reducible apply Kp.alloc) | (with_reducible apply Kp.drew) | (with_reducible apply Kp.drewN) | (with_reducible refine Kp.setCell ?_ (by first | (dsimp only; omega) | (simp; omega) | (simp; done) | (simp [size_ext_eq]; omega)) _)))), HG.out _ _ _ _ (Hpb.out.mono (by simp [size_ext_eq]; first | done | omega) (Nat.le_refl _))⟩

set_option maxRecDepth 20000 in
set_option maxHeartbeats 1000000 in
theorem geo4 (d : Nat) (s : Sh) (hK : s.kind = 4) (ps : List (Nat × Nat)) (hl : s.lists = [ps]) (hp : s.parts = []) (L off cap : Nat) (pv : Value) (a' : Option Addr) (cap' : Nat) (hn : ps.length ≤ 300) (w : World) (hL : L < w.heap.size)
    (hc : w.cell? ⟨L, off, none⟩ = some (.slice a' ps.length cap')) (hin : PtsIn w a' ps) :
    Calls Tryz.prog 18 #[.agg #[.int .i64 4, .slice (some ⟨L, off, none⟩) 1 cap, pv]] w (RetB w fun lo hi w v => GeoB (d + 1) lo hi w v s) := by
  have hF : ∀ w', Kp w w' → Calls Tryz.prog 34 #[.agg #[.int .i64 4, .slice (some ⟨L, off, none⟩) 1 cap, pv]] w' (Ret w' (.slice a' ps.length cap')) := fun w' hk =>
    first_c (.int .i64 4) pv [ps] (some ⟨L, off, none⟩) cap L off a' ps.length cap' rfl (by simp) w' (Nat.lt_of_lt_of_le hL hk.size) (Kp.cell hk hc hL)
  have hpt := fun w' (hk : Kp w w') => pointsB_c a' cap' ps (by omega) w' (hin.kp hk)
  have HF := Lib.hid hF
  have Hpt := Lib.hid hpt
  have HG := Lib.hid (fun (lo hi : Nat) (w' : World) (u : Value) (h : PtsB lo hi w' u ps) => (show GeoB (d + 1) lo hi w' (.iface 95 u) s from .inr (.inr (.inr (.inl ⟨hK, ps, u, hl, hp, rfl, h⟩)))))
  obtain ⟨n, hnn⟩ : ∃ n, ps.length = n := ⟨_, rfl⟩
  rw [hnn] at HF Hpt
  have Hn := Lib.hid hnn
  clear hF hpt hK hl hp hc hin hnn
  go_enter Tryz.func18, Tryz.ntmps18
  go_wp2_with (first | (go_at_call 34; (first | (with_reducible refine (Ret.at_ext (HF.out _ (by repeat (first | (with_reducible exact Kp.refl _) | (with_reducible assumption) | (with_reducible apply Kp.ext) | (with_reducible apply Kp.alloc) | (with_reducible apply Kp.drew) | (with_reducible apply Kp.drewN) | (with_reducible refine Kp.setCell ?_ (by first | (dsimp only; omega) | (simp; omega) | (simp; done) | (simp [size_ext_eq]; omega)) _))))).mono ?_) | (with_reducible refine (HF.out _ (by repeat (first | (with_reducible exact Kp.refl _) | (with_reducible assumption) | (with_reducible apply Kp.ext) | (with_reducible apply Kp.alloc) | (with_reducible apply Kp.drew) | (with_reducible apply Kp.drewN) | (with_reducible refine Kp.setCell ?_ (by first | (dsimp only; omega) | (simp; omega) | (simp; done) | (simp [size_ext_eq]; omega)) _)))).mono ?_)); rintro e w' ⟨rfl, u, rfl⟩) | (go_at_call 35; (with_reducible refine (Hpt.out _ (by repeat (first | (with_reducible exact Kp.refl _) | (with_reducible assumption) | (with_reducible apply Kp.ext) | (with_reducible apply Kp.alloc) | (with_reducible apply Kp.drew) | (with_reducible apply Kp.drewN) | (with_reducible refine Kp.setCell ?_ (by first | (dsimp only; omega) | (simp; omega) | (simp; done) | (simp [size_ext_eq]; omega)) _)))).mono ?_); rintro e w1 ⟨v, u, rfl, rfl, hpb⟩; obtain ⟨g2, cap2, hv2, _⟩ := id hpb; rw [Hn.out] at hv2; subst hv2; have Hpb := Lib.hid hpb; clear hpb))
  go_ret
  exact ⟨_, _, rfl, ext_of (show Kp w _ from (by repeat (first | (with_reducible exact Kp.refl _) | (with_reducible assumption) | (with_reducible apply Kp.ext) | (with_reducible apply Kp.alloc) | (with_reducible apply Kp.drew) | (with_reducible apply Kp.drewN) | (with_reducible refine Kp.setCell ?_ (by first | (dsimp only; omega) | (simp; omega) | (simp; done) | (simp [size_ext_eq]; omega)) _)))), HG.out _ _ _ _ (Hpb.out.mono (by simp [size_ext_eq]; first | done | omega) (Nat.le_refl _))⟩

set_option maxRecDepth 20000 in
set_option maxHeartbeats 1000000 in
theorem geo1 (d : Nat) (s : Sh) (hK : s.kind = 1) (x y : Nat) (hl : s.lists = [[(x, y)]]) (hp : s.parts = []) (L off cap : Nat) (pv : Value) (a' : Option Addr) (cap' : Nat) (w : World) (hL : L < w.heap.size)
    (hc : w.cell? ⟨L, off, none⟩ = some (.slice a' 1 cap')) (hin : PtsIn w a' [(x, y)]) :
    Calls Tryz.prog 18 #[.agg #[.int .i64 1, .slice (some ⟨L, off, none⟩) 1 cap, pv]] w (RetB w fun lo hi w v => GeoB (d + 1) lo hi w v s) := by
  have hF : ∀ w', Kp w w' → Calls Tryz.prog 34 #[.agg #[.int .i64 1, .slice (some ⟨L, off, none⟩) 1 cap, pv]] w' (Ret w' (.slice a' 1 cap')) := fun w' hk =>
    first_c (.int .i64 1) pv [[(x, y)]] (some ⟨L, off, none⟩) cap L off a' 1 cap' rfl (by simp) w' (Nat.lt_of_lt_of_le hL hk.size) (Kp.cell hk hc hL)
  have hpt : ∀ w', Kp w w' → Calls Tryz.prog 35 #[.slice a' 1 cap'] w' (RetB w' fun lo hi w v => PtsB lo hi w v [(x, y)]) := fun w' hk => pointsB_c a' cap' [(x, y)] (by simp) w' (hin.kp hk)
  have HF := Lib.hid hF
  have Hpt := Lib.hid hpt
  have HG := Lib.hid (fun (lo hi : Nat) (w' : World) => (show GeoB (d + 1) lo hi w' (.iface 88 (.agg #[.float .f64 x, .float .f64 y])) s from .inl ⟨hK, x, y, hl, hp, rfl⟩))
  clear hF hpt hK hl hp hc hin
  go_enter Tryz.func18, Tryz.ntmps18
  go_wp2_with (first | (go_at_call 34; (first | (with_reducible refine (Ret.at_ext (HF.out _ (by repeat (first | (with_reducible exact Kp.refl _) | (with_reducible assumption) | (with_reducible apply Kp.ext) | (with_reducible apply Kp.alloc) | (with_reducible apply Kp.drew) | (with_reducible apply Kp.drewN) | (with_reducible refine Kp.setCell ?_ (by first | (dsimp only; omega) | (simp; omega) | (simp; done) | (simp [size_ext_eq]; omega)) _))))).mono ?_) | (with_reducible refine (HF.out _ (by repeat (first | (with_reducible exact Kp.refl _) | (with_reducible assumption) | (with_reducible apply Kp.ext) | (with_reducible apply Kp.alloc) | (with_reducible apply Kp.drew) | (with_reducible apply Kp.drewN) | (with_reducible refine Kp.setCell ?_ (by first | (dsimp only; omega) | (simp; omega) | (simp; done) | (simp [size_ext_eq]; omega)) _)))).mono ?_)); rintro e w' ⟨rfl, u, rfl⟩) | (go_at_call 35; (with_reducible refine (Hpt.out _ (by repeat (first | (with_reducible exact Kp.refl _) | (with_reducible assumption) | (with_reducible apply Kp.ext) | (with_reducible apply Kp.alloc) | (with_reducible apply Kp.drew) | (with_reducible apply Kp.drewN) | (with_reducible refine Kp.setCell ?_ (by first | (dsimp only; omega) | (simp; omega) | (simp; done) | (simp [size_ext_eq]; omega)) _)))).mono ?_); rintro e w1 ⟨v, u, rfl, rfl, hpb⟩; obtain ⟨g2, cap2, hv2, _, _, hg2, _, _, hpa⟩ := hpb; subst hv2; obtain ⟨q0, q1⟩ := hpa 0 (by simp); simp only [Nat.zero_mul, Nat.add_zero, List.getElem_cons_zero] at q0 q1; clear hpa))
  go_ret
  exact ⟨_, _, rfl, ext_of (show Kp w _ from (by repeat (first | (with_reducible exact Kp.refl _) | (with_reducible assumption) | (with_reducible apply Kp.ext) | (with_reducible apply Kp.alloc) | (with_reducible apply Kp.drew) | (with_reducible apply Kp.drewN) | (with_reducible refine Kp.setCell ?_ (by first | (dsimp only; omega) | (simp; omega) | (simp; done) | (simp [size_ext_eq]; omega)) _)))), HG.out _ _ _⟩

set_option maxRecDepth 20000 in
set_option maxHeartbeats 1000000 in
theorem geo3 (d : Nat) (s : Sh) (hK : s.kind = 3) (hp : s.parts = []) (a : Option Addr) (cap : Nat) (pv : Value) (hn : s.lists.length ≤ 1000) (hns : ∀ l ∈ s.lists, l.length ≤ 300) (w : World) (hs : LissIn w (.slice a s.lists.length cap) s.lists) :
    Calls Tryz.prog 18 #[.agg #[.int .i64 3, .slice a s.lists.length cap, pv]] w (RetB w fun lo hi w v => GeoB (d + 1) lo hi w v s) := by
  have hP := fun w' (hk : Kp w w') => polygonB_c a cap (.int .i64 3) pv s.lists hn hns w' (hs.kp hk)
  have HP := Lib.hid hP
  have HG := Lib.hid (fun (lo hi : Nat) (w' : World) (u : Value) (h : ListsB s.lists lo hi w' u) => (show GeoB (d + 1) lo hi w' (.iface 93 u) s from .inr (.inr (.inl ⟨hK, u, hp, rfl, h⟩))))
  clear hP hK hp hns hs
  go_enter Tryz.func18, Tryz.ntmps18
  go_wp2_with (go_at_call 36; (with_reducible refine (HP.out _ (by repeat (first | (with_reducible exact Kp.refl _) | (with_reducible assumption) | (with_reducible apply Kp.ext) | (with_reducible apply Kp.alloc) | (with_reducible apply Kp.drew) | (with_reducible apply Kp.drewN) | (with_reducible refine Kp.setCell ?_ (by first | (dsimp only; omega) | (simp; omega) | (simp; done) | (simp [size_ext_eq]; omega)) _)))).mono ?_); rintro e w1 ⟨v, u, rfl, rfl, hpb⟩; have Hpb := Lib.hid hpb; clear hpb)
  go_ret
  exact ⟨_, _, rfl, ext_of (show Kp w _ from (by repeat (first | (with_reducible exact Kp.refl _) | (with_reducible assumption) | (with_reducible apply Kp.ext) | (with_reducible apply Kp.alloc) | (with_reducible apply Kp.drew) | (with_reducible apply Kp.drewN) | (with_reducible refine Kp.setCell ?_ (by first | (dsimp only; omega) | (simp; omega) | (simp; done) | (simp [size_ext_eq]; omega)) _)))), HG.out _ _ _ _ (RowB.mono Hpb.out (by simp [size_ext_eq]; first | done | omega) (Nat.le_refl _))⟩

set_option maxRecDepth 100000 in
set_option maxHeartbeats 2000000 in
theorem geo5 (d : Nat) (s : Sh) (hK : s.kind = 5) (hp : s.parts = []) (a : Option Addr) (cap : Nat) (pv : Value) (hn : s.lists.length ≤ 1000) (hns : ∀ l ∈ s.lists, l.length ≤ 300) (w : World) (hs : LissIn w (.slice a s.lists.length cap) s.lists) :
    Calls Tryz.prog 18 #[.agg #[.int .i64 5, .slice a s.lists.length cap, pv]] w (RetB w fun lo hi w v => GeoB (d + 1) lo hi w v s) := by
  obtain ⟨i0, hi, hz0, hz1, hz2⟩ := info_parts infoLS
  have HG := Lib.hid (fun (lo hi : Nat) (w' : World) (u : Value) (h : RowB (ListE s.lists) lo hi w' u s.lists.length) => (show GeoB (d + 1) lo hi w' (.iface 97 u) s from .inr (.inr (.inr (.inr (.inl ⟨hK, u, hp, rfl, h⟩))))))
  obtain ⟨a0, c0, hv, _, hget⟩ := hs.get
  obtain ⟨rfl, rfl⟩ : _ ∧ _ := by simpa using hv
  have Hget := Lib.hid hget
  have Hns := Lib.hid hns
  clear hs hns hget hv
  clear hK hp
  go_enter Tryz.func18, Tryz.ntmps18
  go_wp2_with fail
  go_loopw [3, 50] (fun sr si wr => ∃ (k : Nat) (xs : List Value), k ≤ s.lists.length ∧ si = .int .i64 k ∧ Kp w wr ∧ RowsP (ListE s.lists) 91 w.heap.size wr sr k xs) (fun _ si _ => s.lists.length - (intOf si).toNat)
  case atStart =>
    have h := RowsP.start (ListE s.lists) 91 (L := w.heap.size) (w := w.alloc (.cells #[.int .i64 5, .slice a s.lists.length cap, pv] 30)) (by simp)
    rw [World.size_alloc] at h
    exact ⟨0, [], by omega, rfl, (by repeat (first | (with_reducible exact Kp.refl _) | (with_reducible assumption) | (with_reducible apply Kp.ext) | (with_reducible apply Kp.alloc) | (with_reducible apply Kp.drew) | (with_reducible apply Kp.drewN) | (with_reducible refine Kp.setCell ?_ (by first | (dsimp only; omega) | (simp; omega) | (simp; done) | (simp [size_ext_eq]; omega)) _))), h⟩
  case round =>
    obtain ⟨k, xs, hkn, rfl, hkp, hrow⟩ := hrel
    by_cases hlt : k < s.lists.length
    · obtain ⟨L, off, a', cap', rfl, hL, hc, _, hin, _⟩ := Hget.out k hlt
      have hc' := Kp.cell hkp hc hL
      have hls := Hns.out _ (List.getElem_mem hlt)
      have HE := Lib.hid (show ListE s.lists k = fun l h w x => PtsB l h w x (s.lists[k]'hlt) by unfold ListE; rw [getD_ls _ _ hlt])
      have hp := Lib.hid (fun w' (hk : Kp w w') => pointsB_c a' cap' (s.lists[k]'hlt) (by omega) w' (hin.kp hk))
      have hLr : L < wr.heap.size := Nat.lt_of_lt_of_le hL hkp.size
      obtain ⟨l1, hl1⟩ : ∃ l, (s.lists[k]'hlt).length = l := ⟨_, rfl⟩
      rw [hl1] at hc' hp
      have Hl1 := Lib.hid hl1
      clear hin hc hls hl1
      have hsz := hkp.size
      have Hrow := Lib.hid hrow
      have hown := hrow.own
      clear hrow
      go_wp2_with (first | (go_at_call 35; (with_reducible refine (hp.out _ (by repeat (first | (with_reducible exact Kp.refl _) | (with_reducible assumption) | (with_reducible apply Kp.ext) | (with_reducible apply Kp.alloc) | (with_reducible apply Kp.drew) | (with_reducible apply Kp.drewN) | (with_reducible refine Kp.setCell ?_ (by first | (dsimp only; omega) | (simp; omega) | (simp; done) | (simp [size_ext_eq]; omega)) _)))).mono ?_); rintro e w1 ⟨v, u, rfl, rfl, hpb⟩; obtain ⟨g2, cap2, hv2, _⟩ := id hpb; rw [Hl1.out] at hv2; subst hv2; have Hpb := Lib.hid hpb; clear hpb) | (at_builtin; refine wpList_append_own2 _ rfl (.tmp 54) (.tmp 57) 97 rfl w.heap.size 91 i0 (.slice none 0 0) 1 24 Tryz.underlying97 hi hz0 hz1 hz2 rfl (by decide) _ k _ rfl ((own_kp hown (show Kp wr _ from (by repeat (first | (with_reducible exact Kp.refl _) | (with_reducible assumption) | (with_reducible apply Kp.ext) | (with_reducible apply Kp.alloc) | (with_reducible apply Kp.drew) | (with_reducible apply Kp.drewN) | (with_reducible refine Kp.setCell ?_ (by first | (dsimp only; omega) | (simp; omega) | (simp; done) | (simp [size_ext_eq]; omega)) _))))).alloc _) _ 1 1 [.slice (some ⟨g2, 0, none⟩) l1 cap2] rfl rfl ?c1 ?c2 ?c3 ?c4 ?c5 ?_))
      case c1 => exact lit1 (by simp [size_ext_eq])
      case c2 => exact fun u hu => by simp at hu; subst hu; rfl
      case c3 => unfold maxLen; omega
      case c4 => omega
      case c5 => simp [size_ext_eq]; omega
      intro v' w1 hown1 hgrow1 hblk
      have hk0 : Kp wr (ext wr u) := (by repeat (first | (with_reducible exact Kp.refl _) | (with_reducible assumption) | (with_reducible apply Kp.ext) | (with_reducible apply Kp.alloc) | (with_reducible apply Kp.drew) | (with_reducible apply Kp.drewN) | (with_reducible refine Kp.setCell ?_ (by first | (dsimp only; omega) | (simp; omega) | (simp; done) | (simp [size_ext_eq]; omega)) _)))
      have hk1 : Kp w w1 := Below.grown ((hkp.trans hk0).alloc _) hgrow1 (by simp [size_ext_eq]; omega) (fun q hq => (hown.lt q hq).1)
      have hx : (ListE s.lists) k wr.heap.size (ext wr u).heap.size ((ext wr u).alloc (.cells #[.slice (some ⟨g2, 0, none⟩) l1 cap2] 91)) (.slice (some ⟨g2, 0, none⟩) l1 cap2) := by
        have hk2 := (Kp.refl (ext wr u)).alloc (.cells #[.slice (some ⟨g2, 0, none⟩) l1 cap2] 91)
        rw [HE.out]
        exact Hpb.out.keep (Agree.of_kp hk2 (Nat.le_refl _))
      have HR := Lib.hid (RowsP.step (E := ListE s.lists) (n1 := wr.heap.size) (n2 := (ext wr u).heap.size) (keep_list s.lists) Hrow.out (hk0.alloc _) hx (by first | omega | (simp; omega)) (by first | exact Nat.le_refl _ | (simp; done) | (simp; omega)) (by simp) hown1 hgrow1 (by simpa [size_ext_eq] using hblk))
      clear hown1 hgrow1 hblk hx hown hk0
      go_wp2_with fail
      go_roundw
      case rel => exact ⟨k + 1, _, by omega, by go_num, hk1, HR.out⟩
      case measure => simp [intOf]; omega
    · obtain rfl : k = s.lists.length := by omega
      have Hr := Lib.hid hrow.done
      clear hrow
      go_wp2_with fail
      go_ret
      exact ⟨_, _, rfl, ext_of hkp, HG.out _ _ _ _ Hr.out⟩

set_option maxRecDepth 100000 in
set_option maxHeartbeats 2000000 in
theorem geo6 (d : Nat) (s : Sh) (hK : s.kind = 6) (d6 : Nat) (hp : s.lists = []) (b off : Nat) (a : Option Addr) (cap : Nat) (lv : Value) (hlv : ∃ a n c, lv = .slice a n c) (hn : s.parts.length ≤ 1000) (w : World) (hb : 0 < s.parts.length → a = some ⟨b, off, none⟩ ∧ b < w.heap.size) (hcell : ∀ (i : Nat) (h : i < s.parts.length), ∃ lv' pv', w.cell? ⟨b, off + i * 3, none⟩ = some (.int .i64 (s.parts[i]'h).kind) ∧ w.cell? ⟨b, off + i * 3 + 1, none⟩ = some lv' ∧ w.cell? ⟨b, off + i * 3 + 2, none⟩ = some pv' ∧ ShIn (d6 + 1) w lv' pv' (s.parts[i]'h)) (hsm : ∀ (i : Nat) (h : i < s.parts.length), (s.parts[i]'h).lists.length ≤ 1000 ∧ ∀ l ∈ (s.parts[i]'h).lists, l.length ≤ 300) :
    Calls Tryz.prog 18 #[.agg #[.int .i64 6, lv, .slice a s.parts.length cap]] w (RetB w fun lo hi w v => GeoB (d + 1) lo hi w v s) := by
  obtain ⟨i0, hi, hz0, hz1, hz2⟩ := info_parts infoPg
  have HG := Lib.hid (fun (lo hi : Nat) (w' : World) (u : Value) (h : RowB (PolyE s.parts) lo hi w' u s.parts.length) => (show GeoB (d + 1) lo hi w' (.iface 99 u) s from .inr (.inr (.inr (.inr (.inr (.inl ⟨hK, u, hp, rfl, h⟩)))))))
  obtain ⟨al, nl, cl, rfl⟩ := hlv
  have Hb := Lib.hid hb
  have Hcell := Lib.hid hcell
  clear hb hcell
  have Hsm := Lib.hid hsm
  clear hsm
  clear hK hp
  go_enter Tryz.func18, Tryz.ntmps18
  go_wp2_with fail
  go_loopw [6, 68] (fun sr si wr => ∃ (k : Nat) (xs : List Value), k ≤ s.parts.length ∧ si = .int .i64 k ∧ Kp w wr ∧ RowsP (PolyE s.parts) 93 w.heap.size wr sr k xs) (fun _ si _ => s.parts.length - (intOf si).toNat)
  case atStart =>
    have h := RowsP.start (PolyE s.parts) 93 (L := w.heap.size) (w := w.alloc (.cells #[.int .i64 6, .slice al nl cl, .slice a s.parts.length cap] 30)) (by simp)
    rw [World.size_alloc] at h
    exact ⟨0, [], by omega, rfl, (by repeat (first | (with_reducible exact Kp.refl _) | (with_reducible assumption) | (with_reducible apply Kp.ext) | (with_reducible apply Kp.alloc) | (with_reducible apply Kp.drew) | (with_reducible apply Kp.drewN) | (with_reducible refine Kp.setCell ?_ (by first | (dsimp only; omega) | (simp; omega) | (simp; done) | (simp [size_ext_eq]; omega)) _))), h⟩
  case round =>
    obtain ⟨k, xs, hkn, rfl, hkp, hrow⟩ := hrel
    by_cases hlt : k < s.parts.length
    · obtain ⟨rfl, hbb⟩ := Hb.out (by omega)
      obtain ⟨lv', pv', g0, g1, g2, g3⟩ := Hcell.out k hlt
      obtain ⟨⟨a3, n3, c3, rfl⟩, a4, n4, c4, rfl⟩ := g3.form
      have g0 := Kp.cell hkp g0 hbb
      have g1 := Kp.cell hkp g1 hbb
      have g2 := Kp.cell hkp g2 hbb
      have hbr : b < wr.heap.size := Nat.lt_of_lt_of_le hbb hkp.size
      obtain ⟨m1, m2⟩ := Hsm.out k hlt
      have HE := Lib.hid (show PolyE s.parts k = fun l h w x => ListsB (s.parts[k]'hlt).lists l h w x by unfold PolyE; rw [getD_sh _ _ hlt])
      have hq := g3.1
      obtain ⟨a5, c5, hv5, _, _⟩ := hq.get
      obtain ⟨rfl, rfl, rfl⟩ : _ ∧ _ ∧ _ := by simpa using hv5
      have hp := Lib.hid (fun w' (hk : Kp w w') => polygonB_c a3 c3 (.int .i64 (s.parts[k]'hlt).kind) (.slice a4 n4 c4) (s.parts[k]'hlt).lists m1 m2 w' (hq.kp hk))
      obtain ⟨kq, hkq⟩ : ∃ q, (s.parts[k]'hlt).kind = q := ⟨_, rfl⟩
      obtain ⟨nq, hnq⟩ : ∃ q, (s.parts[k]'hlt).lists.length = q := ⟨_, rfl⟩
      rw [hkq] at g0 hp
      rw [hnq] at g1 hp
      have Hnq := Lib.hid hnq
      clear g3 m1 m2 hq hv5 hkq hnq
      have hsz := hkp.size
      have Hrow := Lib.hid hrow
      have hown := hrow.own
      clear hrow
      go_wp2_with (first | (go_at_call 36; (with_reducible refine (hp.out _ (by repeat (first | (with_reducible exact Kp.refl _) | (with_reducible assumption) | (with_reducible apply Kp.ext) | (with_reducible apply Kp.alloc) | (with_reducible apply Kp.drew) | (with_reducible apply Kp.drewN) | (with_reducible refine Kp.setCell ?_ (by first | (dsimp only; omega) | (simp; omega) | (simp; done) | (simp [size_ext_eq]; omega)) _)))).mono ?_); rintro e w1 ⟨v, u, rfl, rfl, hpb⟩; obtain ⟨gx, capx, hv2, _⟩ := id hpb; rw [Hnq.out] at hv2; subst hv2; have Hpb := Lib.hid hpb; clear hpb) | (at_builtin; refine wpList_append_own2 _ rfl (.tmp 72) (.tmp 75) 99 rfl w.heap.size 93 i0 (.slice none 0 0) 1 24 Tryz.underlying99 hi hz0 hz1 hz2 rfl (by decide) _ k _ rfl ((own_kp hown (show Kp wr _ from (by repeat (first | (with_reducible exact Kp.refl _) | (with_reducible assumption) | (with_reducible apply Kp.ext) | (with_reducible apply Kp.alloc) | (with_reducible apply Kp.drew) | (with_reducible apply Kp.drewN) | (with_reducible refine Kp.setCell ?_ (by first | (dsimp only; omega) | (simp; omega) | (simp; done) | (simp [size_ext_eq]; omega)) _))))).alloc _) _ 1 1 [.slice (some ⟨gx, 0, none⟩) nq capx] rfl rfl ?c1 ?c2 ?c3 ?c4 ?c5 ?_))
      case c1 => exact lit1 (by simp [size_ext_eq])
      case c2 => exact fun u hu => by simp at hu; subst hu; rfl
      case c3 => unfold maxLen; omega
      case c4 => omega
      case c5 => simp [size_ext_eq]; omega
      intro v' w1 hown1 hgrow1 hblk
      have hk0 : Kp wr (ext (wr.alloc (.cells #[.int .i64 kq, .slice a3 nq c3, .slice a4 n4 c4] 30)) u) := (by repeat (first | (with_reducible exact Kp.refl _) | (with_reducible assumption) | (with_reducible apply Kp.ext) | (with_reducible apply Kp.alloc) | (with_reducible apply Kp.drew) | (with_reducible apply Kp.drewN) | (with_reducible refine Kp.setCell ?_ (by first | (dsimp only; omega) | (simp; omega) | (simp; done) | (simp [size_ext_eq]; omega)) _)))
      have hk1 : Kp w w1 := Below.grown ((hkp.trans hk0).alloc _) hgrow1 (by simp [size_ext_eq]; omega) (fun q hq => (hown.lt q hq).1)
      have hx : (PolyE s.parts) k (wr.alloc (.cells #[.int .i64 kq, .slice a3 nq c3, .slice a4 n4 c4] 30)).heap.size (ext (wr.alloc (.cells #[.int .i64 kq, .slice a3 nq c3, .slice a4 n4 c4] 30)) u).heap.size ((ext (wr.alloc (.cells #[.int .i64 kq, .slice a3 nq c3, .slice a4 n4 c4] 30)) u).alloc (.cells #[.slice (some ⟨gx, 0, none⟩) nq capx] 93)) (.slice (some ⟨gx, 0, none⟩) nq capx) := by
        have hk2 := (Kp.refl (ext (wr.alloc (.cells #[.int .i64 kq, .slice a3 nq c3, .slice a4 n4 c4] 30)) u)).alloc (.cells #[.slice (some ⟨gx, 0, none⟩) nq capx] 93)
        rw [HE.out]
        exact RowB.keep (keep_list _) Hpb.out (Agree.of_kp hk2 (Nat.le_refl _)) hk2.size
      have HR := Lib.hid (RowsP.step (E := PolyE s.parts) (n1 := (wr.alloc (.cells #[.int .i64 kq, .slice a3 nq c3, .slice a4 n4 c4] 30)).heap.size) (n2 := (ext (wr.alloc (.cells #[.int .i64 kq, .slice a3 nq c3, .slice a4 n4 c4] 30)) u).heap.size) (keep_poly s.parts) Hrow.out (hk0.alloc _) hx (by first | omega | (simp; omega)) (by first | exact Nat.le_refl _ | (simp; done) | (simp; omega)) (by simp) hown1 hgrow1 (by simpa [size_ext_eq] using hblk))
      clear hown1 hgrow1 hblk hx hown hk0
      go_wp2_with fail
      go_roundw
      case rel => exact ⟨k + 1, _, by omega, by go_num, hk1, HR.out⟩
      case measure => simp [intOf]; omega
    · obtain rfl : k = s.parts.length := by omega
      have Hr := Lib.hid hrow.done
      clear hrow
      go_wp2_with fail
      go_ret
      exact ⟨_, _, rfl, ext_of hkp, HG.out _ _ _ _ Hr.out⟩

theorem GeoB.iface : ∀ {d lo hi : Nat} {w : World} {v : Value} {s : Sh}, GeoB d lo hi w v s → ∃ t u, v = .iface t u
  | 0, _, _, _, _, _, h => h.elim
  | d + 1, _, _, _, _, _, h => by
    rcases h with ⟨_, _, _, _, _, h⟩ | ⟨_, _, _, _, _, h, _⟩ | ⟨_, _, _, h, _⟩ | ⟨_, _, _, _, _, h, _⟩ | ⟨_, _, _, h, _⟩ | ⟨_, _, _, h, _⟩ | ⟨_, _, _, h, _⟩
    all_goals exact ⟨_, _, h⟩

set_option maxRecDepth 100000 in
set_option maxHeartbeats 2000000 in
theorem geo7 (d : Nat) (s : Sh) (hK : s.kind = 7) (hp : s.lists = []) (b off : Nat) (a : Option Addr) (cap : Nat) (lv : Value) (hlv : ∃ a n c, lv = .slice a n c) (hn : s.parts.length ≤ 1000) (w : World) (hb : 0 < s.parts.length → a = some ⟨b, off, none⟩ ∧ b < w.heap.size) (hcell : ∀ (i : Nat) (h : i < s.parts.length), ∃ lv' pv', w.cell? ⟨b, off + i * 3, none⟩ = some (.int .i64 (s.parts[i]'h).kind) ∧ w.cell? ⟨b, off + i * 3 + 1, none⟩ = some lv' ∧ w.cell? ⟨b, off + i * 3 + 2, none⟩ = some pv' ∧ ShIn d w lv' pv' (s.parts[i]'h)) (ih : ∀ (i : Nat) (h : i < s.parts.length) (lv pv : Value) (w : World), ShIn d w lv pv (s.parts[i]'h) → Calls Tryz.prog 18 #[.agg #[.int .i64 (s.parts[i]'h).kind, lv, pv]] w (RetB w fun lo hi w v => GeoB d lo hi w v (s.parts[i]'h))) :
    Calls Tryz.prog 18 #[.agg #[.int .i64 7, lv, .slice a s.parts.length cap]] w (RetB w fun lo hi w v => GeoB (d + 1) lo hi w v s) := by
  obtain ⟨i0, hi, hz0, hz1, hz2⟩ := info_parts infoGeom
  have HG := Lib.hid (fun (lo hi : Nat) (w' : World) (u : Value) (h : RowB (fun i l h w x => GeoB d l h w x (s.parts.getD i dsh)) lo hi w' u s.parts.length) => (show GeoB (d + 1) lo hi w' (.iface 101 u) s from .inr (.inr (.inr (.inr (.inr (.inr ⟨hK, u, hp, rfl, h⟩)))))))
  obtain ⟨al, nl, cl, rfl⟩ := hlv
  have Hb := Lib.hid hb
  have Hcell := Lib.hid hcell
  clear hb hcell
  have Ih := Lib.hid ih
  clear ih
  clear hK hp
  go_enter Tryz.func18, Tryz.ntmps18
  go_wp2_with fail
  go_loopw [9, 86] (fun sr si wr => ∃ (k : Nat) (xs : List Value), k ≤ s.parts.length ∧ si = .int .i64 k ∧ Kp w wr ∧ RowsP (fun i l h w x => GeoB d l h w x (s.parts.getD i dsh)) 52 w.heap.size wr sr k xs) (fun _ si _ => s.parts.length - (intOf si).toNat)
  case atStart =>
    have h := RowsP.start (fun i l h w x => GeoB d l h w x (s.parts.getD i dsh)) 52 (L := w.heap.size) (w := w.alloc (.cells #[.int .i64 7, .slice al nl cl, .slice a s.parts.length cap] 30)) (by simp)
    rw [World.size_alloc] at h
    exact ⟨0, [], by omega, rfl, (by repeat (first | (with_reducible exact Kp.refl _) | (with_reducible assumption) | (with_reducible apply Kp.ext) | (with_reducible apply Kp.alloc) | (with_reducible apply Kp.drew) | (with_reducible apply Kp.drewN) | (with_reducible refine Kp.setCell ?_ (by first | (dsimp only; omega) | (simp; omega) | (simp; done) | (simp [size_ext_eq]; omega)) _))), h⟩
  case round =>
    obtain ⟨k, xs, hkn, rfl, hkp, hrow⟩ := hrel
    by_cases hlt : k < s.parts.length
    · obtain ⟨rfl, hbb⟩ := Hb.out (by omega)
      obtain ⟨lv', pv', g0, g1, g2, g3⟩ := Hcell.out k hlt
      obtain ⟨⟨a3, n3, c3, rfl⟩, a4, n4, c4, rfl⟩ := g3.form
      have g0 := Kp.cell hkp g0 hbb
      have g1 := Kp.cell hkp g1 hbb
      have g2 := Kp.cell hkp g2 hbb
      have hbr : b < wr.heap.size := Nat.lt_of_lt_of_le hbb hkp.size
      have HE := Lib.hid (show s.parts.getD k dsh = s.parts[k]'hlt from getD_sh _ _ hlt)
      have hp := Lib.hid (fun w' (hk : Kp w w') => Ih.out k hlt _ _ w' (g3.kp hk))
      obtain ⟨kq, hkq⟩ : ∃ q, (s.parts[k]'hlt).kind = q := ⟨_, rfl⟩
      rw [hkq] at g0 hp
      clear g3 hkq
      have hsz := hkp.size
      have Hrow := Lib.hid hrow
      have hown := hrow.own
      clear hrow
      go_wp2_with (first | (go_at_call 18; (with_reducible refine (hp.out _ (by repeat (first | (with_reducible exact Kp.refl _) | (with_reducible assumption) | (with_reducible apply Kp.ext) | (with_reducible apply Kp.alloc) | (with_reducible apply Kp.drew) | (with_reducible apply Kp.drewN) | (with_reducible refine Kp.setCell ?_ (by first | (dsimp only; omega) | (simp; omega) | (simp; done) | (simp [size_ext_eq]; omega)) _)))).mono ?_); rintro e w1 ⟨v, u, rfl, rfl, hpb⟩; obtain ⟨tx, vx, hvx⟩ := GeoB.iface hpb; subst hvx; have Hpb := Lib.hid hpb; clear hpb) | (at_builtin; refine wpList_append_own2 _ rfl (.tmp 94) (.tmp 96) 101 rfl w.heap.size 52 i0 (.nilIface) 1 16 Tryz.underlying101 hi hz0 hz1 hz2 rfl (by decide) _ k _ rfl ((own_kp hown (show Kp wr _ from (by repeat (first | (with_reducible exact Kp.refl _) | (with_reducible assumption) | (with_reducible apply Kp.ext) | (with_reducible apply Kp.alloc) | (with_reducible apply Kp.drew) | (with_reducible apply Kp.drewN) | (with_reducible refine Kp.setCell ?_ (by first | (dsimp only; omega) | (simp; omega) | (simp; done) | (simp [size_ext_eq]; omega)) _))))).alloc _) _ 1 1 [.iface tx vx] rfl rfl ?c1 ?c2 ?c3 ?c4 ?c5 ?_))
      case c1 => exact lit1 (by simp [size_ext_eq])
      case c2 => exact fun u hu => by simp at hu; subst hu; rfl
      case c3 => unfold maxLen; omega
      case c4 => omega
      case c5 => simp [size_ext_eq]; omega
      intro v' w1 hown1 hgrow1 hblk
      have hk0 : Kp wr (ext (wr.alloc (.cells #[.int .i64 kq, .slice a3 n3 c3, .slice a4 n4 c4] 30)) u) := (by repeat (first | (with_reducible exact Kp.refl _) | (with_reducible assumption) | (with_reducible apply Kp.ext) | (with_reducible apply Kp.alloc) | (with_reducible apply Kp.drew) | (with_reducible apply Kp.drewN) | (with_reducible refine Kp.setCell ?_ (by first | (dsimp only; omega) | (simp; omega) | (simp; done) | (simp [size_ext_eq]; omega)) _)))
      have hk1 : Kp w w1 := Below.grown ((hkp.trans hk0).alloc _) hgrow1 (by simp [size_ext_eq]; omega) (fun q hq => (hown.lt q hq).1)
      have hx : (fun i l h w x => GeoB d l h w x (s.parts.getD i dsh)) k (wr.alloc (.cells #[.int .i64 kq, .slice a3 n3 c3, .slice a4 n4 c4] 30)).heap.size (ext (wr.alloc (.cells #[.int .i64 kq, .slice a3 n3 c3, .slice a4 n4 c4] 30)) u).heap.size ((ext (wr.alloc (.cells #[.int .i64 kq, .slice a3 n3 c3, .slice a4 n4 c4] 30)) u).alloc (.cells #[.iface tx vx] 52)) (.iface tx vx) := by
        have hk2 := (Kp.refl (ext (wr.alloc (.cells #[.int .i64 kq, .slice a3 n3 c3, .slice a4 n4 c4] 30)) u)).alloc (.cells #[.iface tx vx] 52)
        show GeoB d _ _ _ _ (s.parts.getD k dsh)
        rw [HE.out]
        exact Hpb.out.keep (Agree.of_kp hk2 (Nat.le_refl _)) hk2.size
      have HR := Lib.hid (RowsP.step (E := fun i l h w x => GeoB d l h w x (s.parts.getD i dsh)) (n1 := (wr.alloc (.cells #[.int .i64 kq, .slice a3 n3 c3, .slice a4 n4 c4] 30)).heap.size) (n2 := (ext (wr.alloc (.cells #[.int .i64 kq, .slice a3 n3 c3, .slice a4 n4 c4] 30)) u).heap.size) (fun i l h w w' x a hs e => GeoB.keep e a hs) Hrow.out (hk0.alloc _) hx (by first | omega | (simp; omega)) (by first | exact Nat.le_refl _ | (simp; done) | (simp; omega)) (by simp) hown1 hgrow1 (by simpa [size_ext_eq] using hblk))
      clear hown1 hgrow1 hblk hx hown hk0
      go_wp2_with fail
      go_roundw
      case rel => exact ⟨k + 1, _, by omega, by go_num, hk1, HR.out⟩
      case measure => simp [intOf]; omega
    · obtain rfl : k = s.parts.length := by omega
      have Hr := Lib.hid hrow.done
      clear hrow
      go_wp2_with fail
      go_ret
      exact ⟨_, _, rfl, ext_of hkp, HG.out _ _ _ _ Hr.out⟩


theorem small_of : ∀ {d : Nat} {s : Sh}, cntP d s ≤ 300 → Small d s
  | 0, _, _ => trivial
  | d + 1, s, h => by
    unfold cntP at h
    refine ⟨fun l hl => ?_, fun p hp => ?_⟩
    · have := le_sum (f := List.length) hl
      unfold lenSum at h
      omega
    · have := le_sum (f := cntP d) hp
      exact small_of (by omega)
theorem isSh_facts {s : Sh} (h : isShB s = true) : cntOk 4 s = true ∧ Small 4 s := by
  unfold isShB at h
  simp only [Bool.and_eq_true, decide_eq_true_eq] at h
  exact ⟨h.1.1, small_of h.1.2⟩

theorem geometry_c : ∀ (d : Nat) (s : Sh) (lv pv : Value) (w : World), ShIn d w lv pv s → cntOk d s = true → Small d s → Calls Tryz.prog 18 #[.agg #[.int .i64 s.kind, lv, pv]] w (RetB w fun lo hi w v => GeoB d lo hi w v s)
  | 0, _, _, _, _, _, h, _ => by cases h
  | d + 1, s, lv, pv, w, hs, hok, hsm => by
    obtain ⟨h1, h2, h3⟩ := cntOk_parts hok
    obtain ⟨k1, k2, k3, k4⟩ := shHead_spec h1
    obtain ⟨sl, sp⟩ := hsm
    have hsf := hs.form
    obtain ⟨hl, a2, c2, rfl, _, hparts⟩ := hs
    obtain ⟨a1, c1, rfl, _, hget⟩ := hl.get
    have hone : ∀ ps, s.lists = [ps] → ∃ L off a' cap', a1 = some ⟨L, off, none⟩ ∧ L < w.heap.size ∧ w.cell? ⟨L, off, none⟩ = some (.slice a' ps.length cap') ∧ PtsIn w a' ps ∧ ps.length ≤ 300 := by
      intro ps hps
      have h0 : 0 < s.lists.length := by rw [hps]; simp
      obtain ⟨L, off, a', cap', ha, hL, hc, _, hin, _⟩ := hget 0 h0
      have e : s.lists[0]'h0 = ps := by simp [hps]
      rw [e] at hc hin
      rw [Nat.add_zero] at hc
      exact ⟨L, off, a', cap', ha, hL, hc, hin, sl ps (by rw [hps]; simp)⟩
    rcases (show s.kind = 1 ∨ s.kind = 2 ∨ s.kind = 3 ∨ s.kind = 4 ∨ s.kind = 5 ∨ s.kind = 6 ∨ s.kind = 7 by omega) with hK | hK | hK | hK | hK | hK | hK
    · rw [formB_1 hK] at h3
      simp only [Bool.and_eq_true, decide_eq_true_eq] at h3
      obtain ⟨⟨e1, e2⟩, e3⟩ := h3
      obtain ⟨ps, hps⟩ := List.length_eq_one_iff.1 e1
      rw [hps] at e2
      obtain ⟨⟨x, y⟩, rfl⟩ := List.length_eq_one_iff.1 (show ps.length = 1 from e2)
      obtain ⟨L, off, a', cap', rfl, hL, hc, hin, _⟩ := hone _ hps
      rw [hK, e1]
      exact geo1 d s hK x y hps (List.eq_nil_of_length_eq_zero e3) L off c1 _ a' cap' w hL hc hin
    · rw [formB_2 hK] at h3
      simp only [Bool.and_eq_true, decide_eq_true_eq] at h3
      obtain ⟨e1, e3⟩ := h3
      obtain ⟨ps, hps⟩ := List.length_eq_one_iff.1 e1
      obtain ⟨L, off, a', cap', rfl, hL, hc, hin, hn⟩ := hone _ hps
      rw [hK, e1]
      exact geo2 d s hK ps hps (List.eq_nil_of_length_eq_zero e3) L off c1 _ a' cap' hn w hL hc hin
    · rw [formB_3 hK] at h3
      simp only [decide_eq_true_eq] at h3
      rw [hK]
      exact geo3 d s hK (List.eq_nil_of_length_eq_zero h3) a1 c1 _ (by omega) sl w hl
    · rw [formB_4 hK] at h3
      simp only [Bool.and_eq_true, decide_eq_true_eq] at h3
      obtain ⟨e1, e3⟩ := h3
      obtain ⟨ps, hps⟩ := List.length_eq_one_iff.1 e1
      obtain ⟨L, off, a', cap', rfl, hL, hc, hin, hn⟩ := hone _ hps
      rw [hK, e1]
      exact geo4 d s hK ps hps (List.eq_nil_of_length_eq_zero e3) L off c1 _ a' cap' hn w hL hc hin
    · rw [formB_5 hK] at h3
      simp only [decide_eq_true_eq] at h3
      rw [hK]
      exact geo5 d s hK (List.eq_nil_of_length_eq_zero h3) a1 c1 _ (by omega) sl w hl
    · rw [formB_6 hK] at h3
      simp only [decide_eq_true_eq] at h3
      have hp0 := List.eq_nil_of_length_eq_zero h3
      rw [hK]
      rcases hparts with hnil | ⟨b, off, rfl, hb, hcell⟩
      · exact geo6 d s hK 0 hp0 0 0 a2 c2 _ ⟨_, _, _, rfl⟩ (by omega) w (fun h => by rw [hnil] at h; simp at h) (fun i h => by rw [hnil] at h; simp at h) (fun i h => by rw [hnil] at h; simp at h)
      · cases d with
        | zero =>
          have hnil : s.parts = [] := by
            cases hq : s.parts with
            | nil => rfl
            | cons p ps => have := (h2 p (by rw [hq]; simp)).1; cases this
          exact geo6 0 s hK 0 hp0 b off _ c2 _ ⟨_, _, _, rfl⟩ (by omega) w (fun _ => ⟨rfl, hb⟩) (fun i h => by rw [hnil] at h; simp at h) (fun i h => by rw [hnil] at h; simp at h)
        | succ d => exact geo6 (d + 1) s hK d hp0 b off _ c2 _ ⟨_, _, _, rfl⟩ (by omega) w (fun _ => ⟨rfl, hb⟩) hcell fun i h => ⟨by
            have := (shHead_spec (cntOk_parts (h2 _ (List.getElem_mem h)).1).1).2.2.1; omega, (sp _ (List.getElem_mem h)).1⟩
    · rw [formB_7 hK] at h3
      simp only [decide_eq_true_eq] at h3
      have hp0 := List.eq_nil_of_length_eq_zero h3
      rw [hK]
      have ih := fun (i : Nat) (h : i < s.parts.length) (lv pv : Value) (w : World) (hs : ShIn d w lv pv (s.parts[i]'h)) => geometry_c d _ lv pv w hs (h2 _ (List.getElem_mem h)).1 (sp _ (List.getElem_mem h))
      rcases hparts with hnil | ⟨b, off, rfl, hb, hcell⟩
      · exact geo7 d s hK hp0 0 0 a2 c2 _ ⟨_, _, _, rfl⟩ (by omega) w (fun h => by rw [hnil] at h; simp at h) (fun i h => by rw [hnil] at h; simp at h) ih
      · exact geo7 d s hK hp0 b off _ c2 _ ⟨_, _, _, rfl⟩ (by omega) w (fun _ => ⟨rfl, hb⟩) hcell ih
end Go.Proofs.YtobdohhabgnjiaaGreatDoor
