/-
  Copies of points, lists and geometries: MultiPoint.Clone .. orb.Clone: the same, in new memory.
-/
import Derived.Test.YtciaeknfgdckbaaShOf5
import Derived.Test.YtciaeknfgdckbaaOrbEq4
import Derived.Test.YtciaeknfgdckbaaPof
import Derived.Laws.CopyRow
import Derived.Laws.CopyOwn
import Derived.Laws.MakeOwn
import Derived.Laws.OwnMore
import Derived.WalkSpells
import Derived.Lib.LazyBuf
namespace PubFl
open Go Go.RowKit

theorem run_copy_rows {P : Program} (w : World) (dT sT ty elem : TypeId) (size : Nat) (g dLen dCap : Nat) (a : Addr) (sLen sCap : Nat) (cur : Array Value) (t : TypeId) (cs : List Value)
    (hu : P.underlying dT = some (.slice elem)) (hs : (P.info? elem).map (·.size) = some size)
    (hg : w.heap[g]? = some (.cells cur t (0, 0))) (hn : cs.length = Nat.min sLen dLen * size)
    (hsrc : ∀ j v, cs[j]? = some v → w.cell? (a.add j) = some v) (hfit : cs.length ≤ cur.size) (h1 : ∀ v ∈ cs, v.oneCell' = true) :
    (Builtin.copy_ #[dT, sT] ty #[.slice (some ⟨g, 0, none⟩) dLen dCap, .slice (some a) sLen sCap]).run P w =
      .ok (goInt (Nat.min sLen dLen)) (w.setRow g (cs ++ cur.toList.drop cs.length).toArray) := by
  have hl := run_loadCells_list (P := P) w a cs hsrc
  have hst := run_storeCells_at P g 0 t cs 0 cur w hg (by simpa using hfit) h1
  cases hq : P.info? elem with
  | none => simp [hq] at hs
  | some i =>
    have hi : i.size = size := by simpa [hq] using hs
    simp at hst
    simp [Builtin.copy_, run_underlying hu, Builtin.lenOf, Builtin.firstCells, Go.sizeOf, typeInfo, hq, hi, ← hn, hl, hst]

theorem wpList_copy_rows {P : Program} {w : World} {ops : Array Oper} {rest : List Oper} {o : Oper} {a : Act} {Q : Exit → Act → World → Prop} (hgd : o.guard = none) (d s : Operand) (dT sT : TypeId)
    (ho : o.op = .call { callee := .builtin .copy, args := #[d, s], argTypes := #[dT, sT] }) (elem : TypeId) (hu : P.underlying dT = some (.slice elem)) (size : Nat) (hsz : (P.info? elem).map (·.size) = some size)
    (g dLen dCap : Nat) (ad : Addr) (sLen sCap : Nat) (hd : a.eval d = .slice (some ⟨g, 0, none⟩) dLen dCap) (hs : a.eval s = .slice (some ad) sLen sCap)
    (cur : Array Value) (t : TypeId) (hg : w.heap[g]? = some (.cells cur t (0, 0))) (cs : List Value) (hn : cs.length = Nat.min sLen dLen * size)
    (hsrc : ∀ j v, cs[j]? = some v → w.cell? (ad.add j) = some v) (hfit : cs.length ≤ cur.size) (h1 : ∀ v ∈ cs, v.oneCell' = true)
    (h : ∀ w', Hid (w'.heap[g]? = some (.cells (cs ++ cur.toList.drop cs.length).toArray t (0, 0))) → Hid (Below g w w') → Hid (w'.heap.size = w.heap.size) → wpList P ops Q rest (a.put o.dst (goInt (Nat.min sLen dLen))) w') : wpList P ops Q (o :: rest) a w := by
  refine wpList_plain hgd fun K hK => ?_
  have hrun := run_copy_rows (P := P) w dT sT o.type elem size g dLen dCap ad sLen sCap cur t cs hu hsz hg hn hsrc hfit h1
  unfold Oper.wp
  simp [execOp, ho, resolve, invoke, builtin, hd, hs, hrun, Result.andThen]
  exact hK _ _ (h _ (show _ = _ from setRow_heap w g _ _ t _ hg) (show Below g w _ from below_setRow (Below.refl _ _) (Nat.le_refl _) _) (show _ = _ by simp [World.setRow]))
end PubFl
namespace Go.Proofs.Ytciaeknfgdckbaa
open PubFl Go.RowKit

attribute [local go_sem] cell_ext frozen_ext ext_setCell cell_store size_ext_eq lt_p0 lt_p1 lt_p2 lt_p3 lt_p4 lt_p5 lt_p6 lt_p7 lt_p8 lt_p9 lt_p10 lt_p11 lt_p12 lt_p13 lt_p14 lt_p15 lt_p16 lt_p17 lt_p18 lt_p19 lt_p20 lt_p21 lt_p22 lt_p23 lt_p24 lt_p25 lt_p26 lt_p27 lt_p28 lt_p29 lt_p30 lt_p31 lt_p32 lt_q1 lt_q2 lt_q3 lt_q4 lt_q5 lt_q6 lt_q7 lt_q8 lt_q9 lt_q10 lt_q11 lt_q12 lt_q13 lt_q14 lt_q15 lt_q16 lt_q17 lt_q18 lt_q19 lt_q20 lt_q21 lt_q22 lt_q23 lt_q24 lt_q25 lt_q26 lt_q27 lt_q28 lt_q29 lt_q30 lt_q31 lt_q32 run_fop run_store_float
attribute [local go_sem high] cmp_eql cmp_neq cmp_lss cmp_leq cmp_gtr cmp_geq

theorem made_get {z : List Value} {n k j : Nat} : True := trivial
theorem run_eqnil (T e : TypeId) (hT : Try.prog.underlying T = some (.slice e)) (w : World) (g : Addr) (n c : Nat) : (binOp .eql T (.slice (some g) n c) (.slice none 0 0)).run Try.prog w = .ok (.bool false) w := run_eql_slice_nil w T e (some g) n c hT

set_option maxRecDepth 20000 in
set_option maxHeartbeats 1000000 in
theorem cloneMP_c (lo hi : Nat) (v : Value) (ps : List (Nat × Nat)) (hn : ps.length ≤ 300) (w : World) (hs : PtsB lo hi w v ps) :
    Calls Try.prog 41 #[v] w (RetB w fun lo hi w v => PtsB lo hi w v ps) := by
  obtain ⟨i0, hi, hz0, hz1, hz2⟩ := info_parts infoOPt
  obtain ⟨g, cap, rfl, _, _, hg, _, _, hpt⟩ := hs
  have hmk : ∀ w, (Instr.makeSlice 57 (.int .i64 (ps.length : Int)) (.int .i64 (ps.length : Int))).run Try.prog w = .ok (.slice (some ⟨w.heap.size, 0, none⟩) ps.length ps.length) (w.alloc (.cells (madeCells #[.float .f64 0, .float .f64 0] (ps.length * 2)) 46)) := fun w => by
    have := run_make (P := Try.prog) w 57 46 i0 (.agg #[.float .f64 0, .float .f64 0]) Try.underlying57 hi hz0 .i64 .i64 (ps.length : Int) (ps.length : Int) (by omega) (by omega) (by rw [hz2]; omega) (by omega)
    rw [this, hz1]
    rfl
  have hsz : (Try.prog.info? 46).map (·.size) = some 2 := by rw [hi, Option.map_some, hz1]
  have hnil := run_eqnil 63 _ Try.underlying63
  have hce : ∀ (w' : World), Kp w w' → ∀ j v, (cellsOf ps)[j]? = some v → w'.cell? ((⟨g, 0, none⟩ : Addr).add j) = some v := fun w' hk => cells_in (hpt.kp hg hk)
  have Hce := Lib.hid hce
  have hlen := cellsOf_length ps
  have hone := cells_one ps
  obtain ⟨cs, hcs⟩ : ∃ cs, cellsOf ps = cs := ⟨_, rfl⟩
  rw [hcs] at Hce hlen hone
  have Hlen := Lib.hid hlen
  have Hone := Lib.hid hone
  have Hcs := Lib.hid hcs
  have Hsz := Lib.hid hsz
  clear hlen hone hcs hsz hpt hi hz0 hz1 hz2 hce
  go_enter Try.func41, Try.ntmps41
  go_wp2_with (refine wpList_copy_rows rfl (.tmp 9) (.tmp 10) 57 63 rfl 46 Try.underlying57 2 Hsz.out w.heap.size ps.length ps.length ⟨g, 0, none⟩ ps.length cap rfl rfl _ _ (heap_alloc_new w _) cs (by rw [Hlen.out]; simp) (Hce.out _ (by repeat (first | (with_reducible exact Kp.refl _) | (with_reducible assumption) | (with_reducible apply Kp.ext) | (with_reducible apply Kp.alloc) | (with_reducible apply Kp.drew) | (with_reducible apply Kp.drewN) | (with_reducible refine Kp.setCell ?_ (by first | (dsimp only; omega) | (simp; omega) | (simp; done) | (simp [size_ext_eq]; omega)) _)))) (by rw [Hlen.out, size_madeCells]; exact Nat.le_refl _) Hone.out ?_; intro w1 H1 H2 H3)
  go_ret
  refine ⟨_, _, rfl, ext_of (Below.trans (show Kp w _ from (by repeat (first | (with_reducible exact Kp.refl _) | (with_reducible assumption) | (with_reducible apply Kp.ext) | (with_reducible apply Kp.alloc) | (with_reducible apply Kp.drew) | (with_reducible apply Kp.drewN) | (with_reducible refine Kp.setCell ?_ (by first | (dsimp only; omega) | (simp; omega) | (simp; done) | (simp [size_ext_eq]; omega)) _)))) H2.out), ?_⟩
  have h1 := H1.out
  have h3 := H3.out
  have e : (madeCells #[Value.float .f64 0, .float .f64 0] (ps.length * 2)).toList.drop cs.length = [] := by
    rw [List.drop_eq_nil_iff, Array.length_toList, size_madeCells, Hlen.out]; exact Nat.le_refl _
  rw [e, List.append_nil] at h1
  rw [World.size_alloc] at h3
  refine ⟨w.heap.size, ps.length, rfl, Nat.le_refl _, by omega, by omega, Nat.le_refl _, fun j => row_frozen h1, fun i hi => ?_⟩
  obtain ⟨g1, g2⟩ := cellsOf_get ps i hi
  rw [Hcs.out] at g1 g2
  have hc : ∀ o, w1.cell? ⟨w.heap.size, o, none⟩ = cs[o]? := fun o => by
    unfold World.cell?
    simp only [h1]
    simp
  rw [Nat.zero_add, hc, hc]
  exact ⟨g1, g2⟩


theorem cloneLineString_c (lo hi : Nat) (v : Value) (ps : List (Nat × Nat)) (hn : ps.length ≤ 300) (w : World) (hs : PtsB lo hi w v ps) :
    Calls Try.prog 42 #[v] w (RetB w fun lo hi w v => PtsB lo hi w v ps) := by
  have hc := fun w' (hk : Kp w w') => cloneMP_c lo hi v ps hn w' (hs.kp hk)
  obtain ⟨g, cap, rfl, _⟩ := id hs
  have HC := Lib.hid hc
  clear hs hc
  go_enter Try.func42, Try.ntmps42
  go_wp2_with (go_at_call 41; (with_reducible refine (HC.out _ (by repeat (first | (with_reducible exact Kp.refl _) | (with_reducible assumption) | (with_reducible apply Kp.ext) | (with_reducible apply Kp.alloc) | (with_reducible apply Kp.drew) | (with_reducible apply Kp.drewN) | (with_reducible refine Kp.setCell ?_ (by first | (dsimp only; omega) | (simp; omega) | (simp; done) | (simp [size_ext_eq]; omega)) _)))).mono ?_); rintro e w1 ⟨v, u, rfl, rfl, hpb⟩; have Hpb := Lib.hid hpb; clear hpb)
  go_ret
  exact ⟨_, _, rfl, ext_of (show Kp w _ from (by repeat (first | (with_reducible exact Kp.refl _) | (with_reducible assumption) | (with_reducible apply Kp.ext) | (with_reducible apply Kp.alloc) | (with_reducible apply Kp.drew) | (with_reducible apply Kp.drewN) | (with_reducible refine Kp.setCell ?_ (by first | (dsimp only; omega) | (simp; omega) | (simp; done) | (simp [size_ext_eq]; omega)) _)))), Hpb.out.mono (by simp [size_ext_eq]; first | done | omega) (Nat.le_refl _)⟩


theorem cloneRing_c (lo hi : Nat) (v : Value) (ps : List (Nat × Nat)) (hn : ps.length ≤ 300) (w : World) (hs : PtsB lo hi w v ps) :
    Calls Try.prog 44 #[v] w (RetB w fun lo hi w v => PtsB lo hi w v ps) := by
  have hc := fun w' (hk : Kp w w') => cloneMP_c lo hi v ps hn w' (hs.kp hk)
  obtain ⟨g, cap, rfl, _⟩ := id hs
  have HC := Lib.hid hc
  have hnil := run_eqnil 76 _ Try.underlying76
  clear hs hc
  go_enter Try.func44, Try.ntmps44
  go_wp2_with (go_at_call 41; (with_reducible refine (HC.out _ (by repeat (first | (with_reducible exact Kp.refl _) | (with_reducible assumption) | (with_reducible apply Kp.ext) | (with_reducible apply Kp.alloc) | (with_reducible apply Kp.drew) | (with_reducible apply Kp.drewN) | (with_reducible refine Kp.setCell ?_ (by first | (dsimp only; omega) | (simp; omega) | (simp; done) | (simp [size_ext_eq]; omega)) _)))).mono ?_); rintro e w1 ⟨v, u, rfl, rfl, hpb⟩; have Hpb := Lib.hid hpb; clear hpb)
  go_ret
  exact ⟨_, _, rfl, ext_of (show Kp w _ from (by repeat (first | (with_reducible exact Kp.refl _) | (with_reducible assumption) | (with_reducible apply Kp.ext) | (with_reducible apply Kp.alloc) | (with_reducible apply Kp.drew) | (with_reducible apply Kp.drewN) | (with_reducible refine Kp.setCell ?_ (by first | (dsimp only; omega) | (simp; omega) | (simp; done) | (simp [size_ext_eq]; omega)) _)))), Hpb.out.mono (by simp [size_ext_eq]; first | done | omega) (Nat.le_refl _)⟩


set_option maxRecDepth 20000 in
set_option maxHeartbeats 1000000 in
theorem cloneMLS_c (lo hi : Nat) (v : Value) (ls : List (List (Nat × Nat))) (hn : ls.length ≤ 40) (hns : ∀ l ∈ ls, l.length ≤ 300) (w : World) (hs : RowB (ListE ls) lo hi w v ls.length) :
    Calls Try.prog 43 #[v] w (RetB w fun lo hi w v => RowB (ListE ls) lo hi w v ls.length) := by
  obtain ⟨i0, hi, hz0, hz1, hz2⟩ := info_parts infoLS
  obtain ⟨g, cap, rfl, _, _, hg, _, _, hel⟩ := hs
  have hmk : ∀ w, (Instr.makeSlice 65 (.int .i64 0) (.int .i64 (ls.length : Int))).run Try.prog w = .ok (.slice (some ⟨w.heap.size, 0, none⟩) 0 ls.length) (w.alloc (.cells (madeCells #[.slice none 0 0] (ls.length * 1)) 59)) := fun w => by
    have := run_make (P := Try.prog) w 65 59 i0 (.slice none 0 0) Try.underlying65 hi hz0 .i64 .i64 0 (ls.length : Int) (by omega) (by omega) (by rw [hz2]; omega) (by omega)
    rw [this, hz1]
    rfl
  have hnil := run_eqnil 65 _ Try.underlying65
  have Hel := Lib.hid hel
  have Hns := Lib.hid hns
  clear hel hns
  go_enter Try.func43, Try.ntmps43
  go_wp2_with fail
  go_loopw [3, 13] (fun s3 s13 wr => ∃ (k : Nat) (xs : List Value), k ≤ ls.length ∧ s13 = .int .i64 k ∧ Kp w wr ∧ RowsP (ListE ls) 59 w.heap.size wr s3 k xs) (fun _ s13 _ => ls.length - (intOf s13).toNat)
  case atStart =>
    exact ⟨0, [], by omega, rfl, (by repeat (first | (with_reducible exact Kp.refl _) | (with_reducible assumption) | (with_reducible apply Kp.ext) | (with_reducible apply Kp.alloc) | (with_reducible apply Kp.drew) | (with_reducible apply Kp.drewN) | (with_reducible refine Kp.setCell ?_ (by first | (dsimp only; omega) | (simp; omega) | (simp; done) | (simp [size_ext_eq]; omega)) _))), ⟨World.ownsRow_made w _ ls.length (Nat.le_refl _) (by unfold maxLen; omega) (by simp [size_madeCells]), ⟨_, rfl⟩, fun i hi => by omega⟩⟩
  case round =>
    obtain ⟨k, xs, hkn, rfl, hkp, hrow⟩ := hrel
    by_cases hlt : k < ls.length
    · obtain ⟨x, l, h, hc, hx, _, _, hh, _⟩ := Hel.out k hlt
      have hc' := Kp.cell hkp hc hg
      have hp := Lib.hid (fun w' (hk : Kp wr w') => cloneLineString_c _ _ x _ (Hns.out _ (mem_getD hlt)) w' (PtsB.kp hx (hkp.trans hk)))
      have hgr : g < wr.heap.size := Nat.lt_of_lt_of_le hg hkp.size
      have hsz := hkp.size
      have Hrow := Lib.hid hrow
      have hown := hrow.own
      obtain ⟨ax, nx, cx, rfl⟩ : ∃ a n c, x = .slice a n c := by first | exact PtsB.slc hx | exact RowB.slc hx
      obtain ⟨N, hN⟩ : ∃ N, (ls.getD k []).length = N := ⟨_, rfl⟩
      have HN := Lib.hid hN
      clear hx hc hrow hN
      go_wp2_with (first | (go_at_call 42; (with_reducible refine (hp.out _ (by repeat (first | (with_reducible exact Kp.refl _) | (with_reducible assumption) | (with_reducible apply Kp.ext) | (with_reducible apply Kp.alloc) | (with_reducible apply Kp.drew) | (with_reducible apply Kp.drewN) | (with_reducible refine Kp.setCell ?_ (by first | (dsimp only; omega) | (simp; omega) | (simp; done) | (simp [size_ext_eq]; omega)) _)))).mono ?_); rintro e w1 ⟨v, u, rfl, rfl, hpb⟩; obtain ⟨g2, cap2, hv2, hpb'⟩ := id hpb; rw [HN.out] at hv2; subst hv2; have Hpb := Lib.hid hpb; clear hpb hpb') | (at_builtin; refine wpList_append_own2 _ rfl (.tmp 17) (.tmp 20) 65 rfl w.heap.size 59 i0 (.slice none 0 0) 1 24 Try.underlying65 hi hz0 hz1 hz2 rfl (by decide) _ k _ rfl ((own_kp hown (by repeat (first | (with_reducible exact Kp.refl _) | (with_reducible assumption) | (with_reducible apply Kp.ext) | (with_reducible apply Kp.alloc) | (with_reducible apply Kp.drew) | (with_reducible apply Kp.drewN) | (with_reducible refine Kp.setCell ?_ (by first | (dsimp only; omega) | (simp; omega) | (simp; done) | (simp [size_ext_eq]; omega)) _)))).alloc _) _ 1 1 [.slice (some ⟨g2, 0, none⟩) N cap2] rfl rfl ?c1 ?c2 ?c3 ?c4 ?c5 ?_))
      case c1 => exact lit1 (by first | rfl | simp [size_ext_eq])
      case c2 => exact fun u hu => by simp at hu; subst hu; rfl
      case c3 => unfold maxLen; omega
      case c4 => omega
      case c5 => simp [size_ext_eq]; omega
      intro v' w1 hown1 hgrow1 hblk
      have hk1 : Kp w w1 := Below.grown ((hkp.ext _).alloc _) hgrow1 (by simp [size_ext_eq]; omega) (fun q hq => (hown.lt q hq).1)
      have HR := Lib.hid (RowsP.step (keep_list ls) Hrow.out (show Kp wr _ from (by repeat (first | (with_reducible exact Kp.refl _) | (with_reducible assumption) | (with_reducible apply Kp.ext) | (with_reducible apply Kp.alloc) | (with_reducible apply Kp.drew) | (with_reducible apply Kp.drewN) | (with_reducible refine Kp.setCell ?_ (by first | (dsimp only; omega) | (simp; omega) | (simp; done) | (simp [size_ext_eq]; omega)) _)))) ((keep_list ls) k _ _ _ _ _ (Agree.of_kp ((Kp.refl (ext wr u)).alloc _) (Nat.le_refl _)) (by simp) Hpb.out) hsz (Nat.le_refl _) (by simp) hown1 hgrow1 (by simpa [size_ext_eq] using hblk))
      clear hown1 hgrow1 hblk hown
      go_wp2_with fail
      go_roundw
      case rel => exact ⟨k + 1, _, by omega, by go_num, hk1, HR.out⟩
      case measure => simp [intOf]; omega
    · obtain rfl : k = ls.length := by omega
      have Hr := Lib.hid hrow.done
      clear hrow
      go_wp2_with fail
      go_ret
      exact ⟨_, _, rfl, ext_of hkp, Hr.out⟩


set_option maxRecDepth 20000 in
set_option maxHeartbeats 1000000 in
theorem clonePg_c (lo hi : Nat) (v : Value) (ls : List (List (Nat × Nat))) (hn : ls.length ≤ 40) (hns : ∀ l ∈ ls, l.length ≤ 300) (w : World) (hs : RowB (ListE ls) lo hi w v ls.length) :
    Calls Try.prog 45 #[v] w (RetB w fun lo hi w v => RowB (ListE ls) lo hi w v ls.length) := by
  obtain ⟨i0, hi, hz0, hz1, hz2⟩ := info_parts infoRing'
  obtain ⟨g, cap, rfl, _, _, hg, _, _, hel⟩ := hs
  have hmk : ∀ w, (Instr.makeSlice 61 (.int .i64 0) (.int .i64 (ls.length : Int))).run Try.prog w = .ok (.slice (some ⟨w.heap.size, 0, none⟩) 0 ls.length) (w.alloc (.cells (madeCells #[.slice none 0 0] (ls.length * 1)) 76)) := fun w => by
    have := run_make (P := Try.prog) w 61 76 i0 (.slice none 0 0) Try.underlying61 hi hz0 .i64 .i64 0 (ls.length : Int) (by omega) (by omega) (by rw [hz2]; omega) (by omega)
    rw [this, hz1]
    rfl
  have hnil := run_eqnil 61 _ Try.underlying61
  have Hel := Lib.hid hel
  have Hns := Lib.hid hns
  clear hel hns
  go_enter Try.func45, Try.ntmps45
  go_wp2_with fail
  go_loopw [3, 14] (fun s3 s13 wr => ∃ (k : Nat) (xs : List Value), k ≤ ls.length ∧ s13 = .int .i64 k ∧ Kp w wr ∧ RowsP (ListE ls) 76 w.heap.size wr s3 k xs) (fun _ s13 _ => ls.length - (intOf s13).toNat)
  case atStart =>
    exact ⟨0, [], by omega, rfl, (by repeat (first | (with_reducible exact Kp.refl _) | (with_reducible assumption) | (with_reducible apply Kp.ext) | (with_reducible apply Kp.alloc) | (with_reducible apply Kp.drew) | (with_reducible apply Kp.drewN) | (with_reducible refine Kp.setCell ?_ (by first | (dsimp only; omega) | (simp; omega) | (simp; done) | (simp [size_ext_eq]; omega)) _))), ⟨World.ownsRow_made w _ ls.length (Nat.le_refl _) (by unfold maxLen; omega) (by simp [size_madeCells]), ⟨_, rfl⟩, fun i hi => by omega⟩⟩
  case round =>
    obtain ⟨k, xs, hkn, rfl, hkp, hrow⟩ := hrel
    by_cases hlt : k < ls.length
    · obtain ⟨x, l, h, hc, hx, _, _, hh, _⟩ := Hel.out k hlt
      have hc' := Kp.cell hkp hc hg
      have hp := Lib.hid (fun w' (hk : Kp wr w') => cloneRing_c _ _ x _ (Hns.out _ (mem_getD hlt)) w' (PtsB.kp hx (hkp.trans hk)))
      have hgr : g < wr.heap.size := Nat.lt_of_lt_of_le hg hkp.size
      have hsz := hkp.size
      have Hrow := Lib.hid hrow
      have hown := hrow.own
      obtain ⟨ax, nx, cx, rfl⟩ : ∃ a n c, x = .slice a n c := by first | exact PtsB.slc hx | exact RowB.slc hx
      obtain ⟨N, hN⟩ : ∃ N, (ls.getD k []).length = N := ⟨_, rfl⟩
      have HN := Lib.hid hN
      clear hx hc hrow hN
      go_wp2_with (first | (go_at_call 44; (with_reducible refine (hp.out _ (by repeat (first | (with_reducible exact Kp.refl _) | (with_reducible assumption) | (with_reducible apply Kp.ext) | (with_reducible apply Kp.alloc) | (with_reducible apply Kp.drew) | (with_reducible apply Kp.drewN) | (with_reducible refine Kp.setCell ?_ (by first | (dsimp only; omega) | (simp; omega) | (simp; done) | (simp [size_ext_eq]; omega)) _)))).mono ?_); rintro e w1 ⟨v, u, rfl, rfl, hpb⟩; obtain ⟨g2, cap2, hv2, hpb'⟩ := id hpb; rw [HN.out] at hv2; subst hv2; have Hpb := Lib.hid hpb; clear hpb hpb') | (at_builtin; refine wpList_append_own2 _ rfl (.tmp 18) (.tmp 21) 61 rfl w.heap.size 76 i0 (.slice none 0 0) 1 24 Try.underlying61 hi hz0 hz1 hz2 rfl (by decide) _ k _ rfl ((own_kp hown (by repeat (first | (with_reducible exact Kp.refl _) | (with_reducible assumption) | (with_reducible apply Kp.ext) | (with_reducible apply Kp.alloc) | (with_reducible apply Kp.drew) | (with_reducible apply Kp.drewN) | (with_reducible refine Kp.setCell ?_ (by first | (dsimp only; omega) | (simp; omega) | (simp; done) | (simp [size_ext_eq]; omega)) _)))).alloc _) _ 1 1 [.slice (some ⟨g2, 0, none⟩) N cap2] rfl rfl ?c1 ?c2 ?c3 ?c4 ?c5 ?_))
      case c1 => exact lit1 (by first | rfl | simp [size_ext_eq])
      case c2 => exact fun u hu => by simp at hu; subst hu; rfl
      case c3 => unfold maxLen; omega
      case c4 => omega
      case c5 => simp [size_ext_eq]; omega
      intro v' w1 hown1 hgrow1 hblk
      have hk1 : Kp w w1 := Below.grown ((hkp.ext _).alloc _) hgrow1 (by simp [size_ext_eq]; omega) (fun q hq => (hown.lt q hq).1)
      have HR := Lib.hid (RowsP.step (keep_list ls) Hrow.out (show Kp wr _ from (by repeat (first | (with_reducible exact Kp.refl _) | (with_reducible assumption) | (with_reducible apply Kp.ext) | (with_reducible apply Kp.alloc) | (with_reducible apply Kp.drew) | (with_reducible apply Kp.drewN) | (with_reducible refine Kp.setCell ?_ (by first | (dsimp only; omega) | (simp; omega) | (simp; done) | (simp [size_ext_eq]; omega)) _)))) ((keep_list ls) k _ _ _ _ _ (Agree.of_kp ((Kp.refl (ext wr u)).alloc _) (Nat.le_refl _)) (by simp) Hpb.out) hsz (Nat.le_refl _) (by simp) hown1 hgrow1 (by simpa [size_ext_eq] using hblk))
      clear hown1 hgrow1 hblk hown
      go_wp2_with fail
      go_roundw
      case rel => exact ⟨k + 1, _, by omega, by go_num, hk1, HR.out⟩
      case measure => simp [intOf]; omega
    · obtain rfl : k = ls.length := by omega
      have Hr := Lib.hid hrow.done
      clear hrow
      go_wp2_with fail
      go_ret
      exact ⟨_, _, rfl, ext_of hkp, Hr.out⟩


set_option maxRecDepth 20000 in
set_option maxHeartbeats 1000000 in
theorem cloneMPg_c (lo hi : Nat) (v : Value) (ls : List Sh) (hn : ls.length ≤ 40) (hns : ∀ p ∈ ls, p.lists.length ≤ 40 ∧ ∀ l ∈ p.lists, l.length ≤ 300) (w : World) (hs : RowB (PolyE ls) lo hi w v ls.length) :
    Calls Try.prog 46 #[v] w (RetB w fun lo hi w v => RowB (PolyE ls) lo hi w v ls.length) := by
  obtain ⟨i0, hi, hz0, hz1, hz2⟩ := info_parts infoPg
  obtain ⟨g, cap, rfl, _, _, hg, _, _, hel⟩ := hs
  have hmk : ∀ w, (Instr.makeSlice 67 (.int .i64 0) (.int .i64 (ls.length : Int))).run Try.prog w = .ok (.slice (some ⟨w.heap.size, 0, none⟩) 0 ls.length) (w.alloc (.cells (madeCells #[.slice none 0 0] (ls.length * 1)) 61)) := fun w => by
    have := run_make (P := Try.prog) w 67 61 i0 (.slice none 0 0) Try.underlying67 hi hz0 .i64 .i64 0 (ls.length : Int) (by omega) (by omega) (by rw [hz2]; omega) (by omega)
    rw [this, hz1]
    rfl
  have hnil := run_eqnil 67 _ Try.underlying67
  have Hel := Lib.hid hel
  have Hns := Lib.hid hns
  clear hel hns
  go_enter Try.func46, Try.ntmps46
  go_wp2_with fail
  go_loopw [3, 13] (fun s3 s13 wr => ∃ (k : Nat) (xs : List Value), k ≤ ls.length ∧ s13 = .int .i64 k ∧ Kp w wr ∧ RowsP (PolyE ls) 61 w.heap.size wr s3 k xs) (fun _ s13 _ => ls.length - (intOf s13).toNat)
  case atStart =>
    exact ⟨0, [], by omega, rfl, (by repeat (first | (with_reducible exact Kp.refl _) | (with_reducible assumption) | (with_reducible apply Kp.ext) | (with_reducible apply Kp.alloc) | (with_reducible apply Kp.drew) | (with_reducible apply Kp.drewN) | (with_reducible refine Kp.setCell ?_ (by first | (dsimp only; omega) | (simp; omega) | (simp; done) | (simp [size_ext_eq]; omega)) _))), ⟨World.ownsRow_made w _ ls.length (Nat.le_refl _) (by unfold maxLen; omega) (by simp [size_madeCells]), ⟨_, rfl⟩, fun i hi => by omega⟩⟩
  case round =>
    obtain ⟨k, xs, hkn, rfl, hkp, hrow⟩ := hrel
    by_cases hlt : k < ls.length
    · obtain ⟨x, l, h, hc, hx, _, _, hh, _⟩ := Hel.out k hlt
      have hc' := Kp.cell hkp hc hg
      have hp := Lib.hid (fun w' (hk : Kp wr w') => clonePg_c _ _ x _ (Hns.out _ (mem_getD hlt)).1 (Hns.out _ (mem_getD hlt)).2 w' (RowB.kp (keep_list _) hx (hkp.trans hk)))
      have hgr : g < wr.heap.size := Nat.lt_of_lt_of_le hg hkp.size
      have hsz := hkp.size
      have Hrow := Lib.hid hrow
      have hown := hrow.own
      obtain ⟨ax, nx, cx, rfl⟩ : ∃ a n c, x = .slice a n c := by first | exact PtsB.slc hx | exact RowB.slc hx
      obtain ⟨N, hN⟩ : ∃ N, (ls.getD k dsh).lists.length = N := ⟨_, rfl⟩
      have HN := Lib.hid hN
      clear hx hc hrow hN
      go_wp2_with (first | (go_at_call 45; (with_reducible refine (hp.out _ (by repeat (first | (with_reducible exact Kp.refl _) | (with_reducible assumption) | (with_reducible apply Kp.ext) | (with_reducible apply Kp.alloc) | (with_reducible apply Kp.drew) | (with_reducible apply Kp.drewN) | (with_reducible refine Kp.setCell ?_ (by first | (dsimp only; omega) | (simp; omega) | (simp; done) | (simp [size_ext_eq]; omega)) _)))).mono ?_); rintro e w1 ⟨v, u, rfl, rfl, hpb⟩; obtain ⟨g2, cap2, hv2, hpb'⟩ := id hpb; rw [HN.out] at hv2; subst hv2; have Hpb := Lib.hid hpb; clear hpb hpb') | (at_builtin; refine wpList_append_own2 _ rfl (.tmp 17) (.tmp 20) 67 rfl w.heap.size 61 i0 (.slice none 0 0) 1 24 Try.underlying67 hi hz0 hz1 hz2 rfl (by decide) _ k _ rfl ((own_kp hown (by repeat (first | (with_reducible exact Kp.refl _) | (with_reducible assumption) | (with_reducible apply Kp.ext) | (with_reducible apply Kp.alloc) | (with_reducible apply Kp.drew) | (with_reducible apply Kp.drewN) | (with_reducible refine Kp.setCell ?_ (by first | (dsimp only; omega) | (simp; omega) | (simp; done) | (simp [size_ext_eq]; omega)) _)))).alloc _) _ 1 1 [.slice (some ⟨g2, 0, none⟩) N cap2] rfl rfl ?c1 ?c2 ?c3 ?c4 ?c5 ?_))
      case c1 => exact lit1 (by first | rfl | simp [size_ext_eq])
      case c2 => exact fun u hu => by simp at hu; subst hu; rfl
      case c3 => unfold maxLen; omega
      case c4 => omega
      case c5 => simp [size_ext_eq]; omega
      intro v' w1 hown1 hgrow1 hblk
      have hk1 : Kp w w1 := Below.grown ((hkp.ext _).alloc _) hgrow1 (by simp [size_ext_eq]; omega) (fun q hq => (hown.lt q hq).1)
      have HR := Lib.hid (RowsP.step (keep_poly ls) Hrow.out (show Kp wr _ from (by repeat (first | (with_reducible exact Kp.refl _) | (with_reducible assumption) | (with_reducible apply Kp.ext) | (with_reducible apply Kp.alloc) | (with_reducible apply Kp.drew) | (with_reducible apply Kp.drewN) | (with_reducible refine Kp.setCell ?_ (by first | (dsimp only; omega) | (simp; omega) | (simp; done) | (simp [size_ext_eq]; omega)) _)))) ((keep_poly ls) k _ _ _ _ _ (Agree.of_kp ((Kp.refl (ext wr u)).alloc _) (Nat.le_refl _)) (by simp) Hpb.out) hsz (Nat.le_refl _) (by simp) hown1 hgrow1 (by simpa [size_ext_eq] using hblk))
      clear hown1 hgrow1 hblk hown
      go_wp2_with fail
      go_roundw
      case rel => exact ⟨k + 1, _, by omega, by go_num, hk1, HR.out⟩
      case measure => simp [intOf]; omega
    · obtain rfl : k = ls.length := by omega
      have Hr := Lib.hid hrow.done
      clear hrow
      go_wp2_with fail
      go_ret
      exact ⟨_, _, rfl, ext_of hkp, Hr.out⟩

end Go.Proofs.Ytciaeknfgdckbaa