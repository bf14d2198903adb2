/-
  spec.PointsOf and spec.OuterPoints.
-/
import Derived.Test.YtciaeknfgdckbaaEqF
import Derived.Laws.OwnMore
namespace Go.Proofs.Ytciaeknfgdckbaa
open PubFl Go.RowKit

attribute [local go_sem] cell_ext frozen_ext ext_setCell cell_store size_ext_eq lt_p0 lt_p1 lt_p2 lt_p3 lt_p4 lt_p5 lt_p6 lt_p7 lt_p8 lt_p9 lt_p10 lt_p11 lt_p12 lt_p13 lt_p14 lt_p15 lt_p16 lt_p17 lt_p18 lt_p19 lt_p20 lt_p21 lt_p22 lt_p23 lt_p24 lt_p25 lt_p26 lt_p27 lt_p28 lt_p29 lt_p30 lt_p31 lt_p32 lt_q1 lt_q2 lt_q3 lt_q4 lt_q5 lt_q6 lt_q7 lt_q8 lt_q9 lt_q10 lt_q11 lt_q12 lt_q13 lt_q14 lt_q15 lt_q16 lt_q17 lt_q18 lt_q19 lt_q20 lt_q21 lt_q22 lt_q23 lt_q24 lt_q25 lt_q26 lt_q27 lt_q28 lt_q29 lt_q30 lt_q31 lt_q32 run_fop run_store_float
attribute [local go_sem high] cmp_eql cmp_neq cmp_lss cmp_leq cmp_gtr cmp_geq

/-- so many lists, one behind the other -/
def catTo (f : Nat → List (Nat × Nat)) : Nat → List (Nat × Nat)
  | 0 => []
  | k + 1 => catTo f k ++ f k
theorem catTo_len {f : Nat → List (Nat × Nat)} {B : Nat} : ∀ {k : Nat}, (∀ i, i < k → (f i).length ≤ B) → (catTo f k).length ≤ k * B
  | 0, _ => by simp [catTo]
  | k + 1, h => by
    have h1 := catTo_len (k := k) fun i hi => h i (by omega)
    have h2 := h k (by omega)
    unfold catTo
    rw [List.length_append, Nat.succ_mul]
    omega
/-- the points of a list that count -/
def lstOf (o : Bool) (s : Sh) (i : Nat) : List (Nat × Nat) := if o = true ∧ s.kind = 3 ∧ i ≠ 0 then [] else s.lists.getD i []
/-- the points of a shape; o: but those of holes -/
def ptsSh (o : Bool) : Nat → Sh → List (Nat × Nat)
  | 0, _ => []
  | d + 1, s => catTo (lstOf o s) s.lists.length ++ catTo (fun i => ptsSh o d (s.parts.getD i dsh)) s.parts.length
theorem lstOf_len {o : Bool} {s : Sh} (h : ∀ l ∈ s.lists, l.length ≤ 300) {i : Nat} (hi : i < s.lists.length) : (lstOf o s i).length ≤ 300 := by
  unfold lstOf
  split
  · simp
  · rw [getD_ls _ _ hi]; exact h _ (List.getElem_mem hi)
theorem ptsSh_len {o : Bool} : ∀ {d : Nat} {s : Sh}, cntOk d s = true → Small d s → (ptsSh o d s).length ≤ 12000 * 41 ^ d
  | 0, _, _, _ => by simp [ptsSh]
  | d + 1, s, hk, hs => by
    obtain ⟨h1, h2, _⟩ := cntOk_parts hk
    obtain ⟨_, _, h3, h4⟩ := shHead_spec h1
    unfold ptsSh
    rw [List.length_append]
    have e1 := catTo_len (f := lstOf o s) (k := s.lists.length) fun i hi => lstOf_len hs.1 hi
    have e2 := catTo_len (f := fun i => ptsSh o d (s.parts.getD i dsh)) (k := s.parts.length) (B := 12000 * 41 ^ d) fun i hi => by
      have hm : s.parts.getD i dsh ∈ s.parts := by rw [getD_sh _ _ hi]; exact List.getElem_mem hi
      exact ptsSh_len (h2 _ hm).1 (hs.2 _ hm)
    have e3 : s.lists.length * 300 ≤ 40 * 300 := Nat.mul_le_mul_right _ h3
    have e4 : s.parts.length * (12000 * 41 ^ d) ≤ 40 * (12000 * 41 ^ d) := Nat.mul_le_mul_right _ h4
    have e5 : 0 < 41 ^ d := Nat.pow_pos (by decide)
    have e6 : 41 ^ (d + 1) = 41 ^ d * 41 := Nat.pow_succ 41 d
    omega

/-- a row of points that the call has made -/
structure OwnP (base : Nat) (w : World) (v : Value) (ps : List (Nat × Nat)) : Prop where
  own : w.ownsRow base 32 2 v ps.length (cellsOf ps)
  nn : ∃ g, v.ownBlock = some g
theorem OwnP.kp {base : Nat} {w w' : World} {v : Value} {ps : List (Nat × Nat)} (h : OwnP base w v ps) (k : Kp w w') : OwnP base w' v ps := ⟨own_kp h.own k, h.nn⟩
theorem OwnP.ptsB {base : Nat} {w : World} {v : Value} {ps : List (Nat × Nat)} (h : OwnP base w v ps) : PtsB base w.heap.size w v ps := by
  obtain ⟨hown, g0, hg0⟩ := h
  have hown' := hown
  rcases hown.2 with ⟨h, _⟩ | ⟨g, cap, cur, hv, hb, hg, h1, h2, h3, h4⟩
  · rw [h] at hg0; cases hg0
  · have hsz := (own_size hown' (g := g) (by rw [hv]; rfl)).2
    refine ⟨g, cap, hv, hb, hsz, hsz, h1, fun j => row_frozen hg, fun i hi => ?_⟩
    subst hv
    obtain ⟨g1, g2⟩ := cellsOf_get ps i hi
    rw [Nat.zero_add]
    exact ⟨(hown'.cellAt _ (by omega)).trans g1, (hown'.cellAt _ (by omega)).trans g2⟩
theorem cellsOf_append (ps qs : List (Nat × Nat)) : cellsOf (ps ++ qs) = cellsOf ps ++ cellsOf qs := by
  unfold cellsOf; rw [List.flatMap_append]
theorem add_at (b off n : Nat) : (⟨b, off, none⟩ : Addr).add n = ⟨b, off + n, none⟩ := by
  unfold Addr.add
  split
  · next h => subst h; rfl
  · rfl
theorem cells_in {w : World} {b off : Nat} {qs : List (Nat × Nat)} (h : PtsAt w b off qs) : ∀ j u, (cellsOf qs)[j]? = some u → w.cell? ((⟨b, off, none⟩ : Addr).add j) = some u := by
  intro j u hj
  have hl := cellsOf_length qs
  have hlt : j < (cellsOf qs).length := by
    rcases Nat.lt_or_ge j (cellsOf qs).length with c | c
    · exact c
    · rw [List.getElem?_eq_none c] at hj; cases hj
  have hi : j / 2 < qs.length := by omega
  obtain ⟨h0, h1⟩ := h (j / 2) hi
  obtain ⟨g0, g1⟩ := cellsOf_get qs (j / 2) hi
  rcases (show j = j / 2 * 2 ∨ j = j / 2 * 2 + 1 by omega) with e | e
  · rw [e, g0] at hj
    rw [e]
    rw [add_at, h0]; exact hj
  · rw [e, g1] at hj
    rw [e]
    rw [add_at, ← Nat.add_assoc, h1]; exact hj
theorem cells_one (qs : List (Nat × Nat)) : ∀ u ∈ cellsOf qs, u.oneCell' = true := by
  intro u hu
  unfold cellsOf at hu
  obtain ⟨p, _, hp⟩ := List.mem_flatMap.1 hu
  simp only [List.mem_cons, List.not_mem_nil, or_false] at hp
  rcases hp with rfl | rfl <;> rfl
theorem run_append_zero {P : Program} {w : World} (base : Nat) (t ty e : TypeId) (i : TypeInfo) (size : Nat) (ht : P.underlying t = some (.slice e)) (hi : P.info? e = some i)
    (v : Value) (n : Nat) (xs : List Value) (hown : w.ownsRow base e size v n xs) (c : Nat) :
    (Builtin.append_ #[t, t] ty #[v, .slice none 0 c]).run P w = .ok v w := by
  rcases hown.2 with ⟨rfl, rfl⟩ | ⟨g, cap, cur, rfl, _, _, hnc, _⟩
  · simp [Builtin.append_, run_underlying ht, sizeOf, typeInfo, hi, Builtin.lenOf, Builtin.firstCells]
  · simp [Builtin.append_, run_underlying ht, sizeOf, typeInfo, hi, Builtin.lenOf, Builtin.firstCells, hnc, storeCells]
theorem wpList_append_pts {ops : Array Oper} {rest : List Oper} {o : Oper} {a : Act} {w : World} {Q : Exit → Act → World → Prop} (hgd : o.guard = none) (s x : Operand)
    (ho : o.op = .call { callee := .builtin .append, args := #[s, x], argTypes := #[27, 27] })
    (base : Nat) (v : Value) (ps : List (Nat × Nat)) (hs : a.eval s = v) (hown : OwnP base w v ps)
    (ad : Option Addr) (c : Nat) (qs : List (Nat × Nat)) (hx : a.eval x = .slice ad qs.length c) (hin : PtsIn w ad qs) (hp : ps.length ≤ 1000000000000) (hq : qs.length ≤ 1000000000000) (hbase : base ≤ w.heap.size)
    (h : ∀ v' w', OwnP base w' v' (ps ++ qs) → Below base w w' → wpList Try.prog ops Q rest (a.put o.dst v') w') : wpList Try.prog ops Q (o :: rest) a w := by
  obtain ⟨i0, hi, hz0, hz1, hz2⟩ := info_parts infoPt
  have hsome : ∀ ad' : Addr, (∀ j u, (cellsOf qs)[j]? = some u → w.cell? (ad'.add j) = some u) → ad = some ad' → wpList Try.prog ops Q (o :: rest) a w := fun ad' hn he => by
    subst he
    refine wpList_append_own2 w hgd s x 27 ho base 32 i0 (.agg #[.float .f64 0, .float .f64 0]) 2 16 Try.underlying27 hi hz0 hz1 hz2 rfl (by decide) v ps.length _ hs hown.own ad' qs.length c (cellsOf qs) hx (cellsOf_length qs) hn (cells_one qs) (by unfold maxLen; omega) (by omega) hbase ?_
    intro v' w' h1 h2 h3
    refine h v' w' ⟨by rw [cellsOf_append, List.length_append]; exact h1, ?_⟩ (Below.grown (Below.refl _ _) h2 hbase fun q hq => (hown.own.lt q hq).1)
    obtain ⟨g0, hg0⟩ := hown.nn
    rcases h3 with e | e <;> exact ⟨_, e.trans (by first | exact hg0 | rfl)⟩
  rcases hin with rfl | ⟨b, off, rfl, _, hpt⟩
  · cases ad with
    | some ad' => exact hsome ad' (fun j u hj => by simp [cellsOf] at hj) rfl
    | none =>
      refine wpList_plain hgd fun K hK => ?_
      have hrun := run_append_zero (P := Try.prog) (w := w) base 27 o.type 32 i0 2 Try.underlying27 hi v ps.length _ hown.own c
      have hx' : a.eval x = .slice none 0 c := hx
      unfold Oper.wp
      simp [execOp, ho, resolve, invoke, builtin, hs, hx', hrun, Result.andThen]
      exact hK _ _ (h v w (by rw [List.append_nil]; exact hown) (Below.refl _ _))
  · exact hsome _ (cells_in hpt) rfl

set_option maxRecDepth 100000 in
set_option maxHeartbeats 4000000 in
theorem specPoints_c_step (d : Nat) (s : Sh) (lv pv : Value) (w : World) (hs : ShIn (d + 1) w lv pv s) (hn1 : s.lists.length ≤ 40) (hn2 : s.parts.length ≤ 40) (hn3 : ∀ l ∈ s.lists, l.length ≤ 300)
    (hn4 : ∀ i, i < s.parts.length → (ptsSh false d (s.parts.getD i dsh)).length ≤ 1000000000)
    (ih : ∀ (i : Nat) (h : i < s.parts.length) (lv pv : Value) (w : World), ShIn d w lv pv (s.parts[i]'h) → Calls Try.prog 29 #[.agg #[.int .i64 (s.parts[i]'h).kind, lv, pv]] w (RetB w fun lo hi w v => PtsB lo hi w v (ptsSh false d (s.parts[i]'h)))) :
    Calls Try.prog 29 #[.agg #[.int .i64 s.kind, lv, pv]] w (RetB w fun lo hi w v => PtsB lo hi w v (ptsSh false (d + 1) s)) := by
  obtain ⟨hls, a2, c2, rfl, _, hparts⟩ := hs
  obtain ⟨a1, c1, rfl, _, hget⟩ := hls.get
  have hdef : ptsSh false (d + 1) s = catTo (lstOf false s) s.lists.length ++ catTo (fun i => ptsSh false d (s.parts.getD i dsh)) s.parts.length := rfl
  rw [hdef]
  have hb1 : ∀ k, k ≤ s.lists.length → (catTo (lstOf false s) k).length ≤ 12000 := fun k hk => by
    have h1 := catTo_len (f := lstOf false s) (k := k) fun i hi => lstOf_len hn3 (by omega)
    have h2 : k * 300 ≤ 40 * 300 := Nat.mul_le_mul_right _ (by omega)
    omega
  have hb2 : ∀ k, k ≤ s.parts.length → (catTo (fun i => ptsSh false d (s.parts.getD i dsh)) k).length ≤ 40000000000 := fun k hk => by
    have h1 := catTo_len (f := fun i => ptsSh false d (s.parts.getD i dsh)) (k := k) (B := 1000000000) fun i hi => hn4 i (by omega)
    have h2 : k * 1000000000 ≤ 40 * 1000000000 := Nat.mul_le_mul_right _ (by omega)
    omega
  have Hget := Lib.hid hget
  have Hparts := Lib.hid hparts
  have Ih := Lib.hid ih
  have H3 := Lib.hid hn3
  have H4 := Lib.hid hn4
  have Hb1 := Lib.hid hb1
  have Hb2 := Lib.hid hb2
  clear hget hparts ih hls hn3 hn4 hb1 hb2 hdef
  obtain ⟨kd, hkd⟩ : ∃ k, s.kind = k := ⟨_, rfl⟩
  rw [hkd]
  have Hkd := Lib.hid hkd
  clear hkd
  obtain ⟨wb, hwb⟩ : ∃ x, x = w.alloc (.cells #[.int .i64 kd, .slice a1 s.lists.length c1, .slice a2 s.parts.length c2] 25) := ⟨_, rfl⟩
  have hkb : Kp w wb := by rw [hwb]; exact (by repeat (first | (with_reducible exact Kp.refl _) | (with_reducible assumption) | (with_reducible apply Kp.ext) | (with_reducible apply Kp.alloc) | (with_reducible apply Kp.drew) | (with_reducible apply Kp.drewN) | (with_reducible refine Kp.setCell ?_ (by first | (dsimp only; omega) | (simp; omega) | (simp; done) | (simp [size_ext_eq]; omega)) _)))
  have hsb : wb.heap.size = w.heap.size + 1 := by rw [hwb]; simp
  have hbx : Box3 wb w.heap.size (.int .i64 kd) (.slice a1 s.lists.length c1) (.slice a2 s.parts.length c2) := by rw [hwb]; exact Box3.new _ _ _ _ _
  have Hsb := Lib.hid hsb
  go_enter Try.func29, Try.ntmps29
  go_wp2_with fail
  rw [← hwb]
  rw [← hsb]
  clear hwb hsb
  go_loopw [3, 12] (fun s3 s12 wr => ∃ k : Nat, k ≤ s.lists.length ∧ s12 = .int .i64 k ∧ Kp wb wr ∧ OwnP wb.heap.size wr s3 (catTo (lstOf false s) k)) (fun _ s12 _ => s.lists.length - (intOf s12).toNat)
  case atStart => exact ⟨0, by omega, rfl, (by repeat (first | (with_reducible exact Kp.refl _) | (with_reducible assumption) | (with_reducible apply Kp.ext) | (with_reducible apply Kp.alloc) | (with_reducible apply Kp.drew) | (with_reducible apply Kp.drewN) | (with_reducible refine Kp.setCell ?_ (by first | (dsimp only; omega) | (simp; omega) | (simp; done) | (simp [size_ext_eq]; omega)) _))), ⟨World.ownsRow_lit wb #[] 0 (Nat.le_refl _) (by decide) rfl, _, rfl⟩⟩
  case round =>
    obtain ⟨k, hk, rfl, hkp, hown⟩ := hrel
    obtain ⟨hB, b0, b1, b2⟩ := hbx.kp hkp
    have hkw := hkb.trans hkp
    have Hown := Lib.hid hown
    clear hown
    by_cases hlt : k < s.lists.length
    · obtain ⟨b, off, a', cap', rfl, hb, hc, _, hin, hbits⟩ := Hget.out k hlt
      have hc' := Kp.cell hkw hc hb
      have hbr : b < wr.heap.size := Nat.lt_of_lt_of_le hb hkw.size
      have h300 := H3.out _ (List.getElem_mem hlt)
      have hin2 := hin.kp hkw
      have hnx : catTo (lstOf false s) (k + 1) = catTo (lstOf false s) k ++ lstOf false s k := rfl
      have hl0 : lstOf false s k = s.lists[k]'hlt := by
        unfold lstOf
        rw [if_neg (fun h => by cases h.1), getD_ls _ _ hlt]
      rw [hl0] at hnx
      obtain ⟨ps, hps⟩ : ∃ ps, s.lists[k]'hlt = ps := ⟨_, rfl⟩
      rw [hps] at hc' hin2 h300 hnx
      have Hin := Lib.hid hin2
      have Hnx := Lib.hid hnx
      have hln := Hb1.out k hk
      clear hnx hl0 hin hin2 hbits hc hps
      go_wp2_with (at_builtin; refine wpList_append_pts rfl (.tmp 16) (.tmp 17) rfl wb.heap.size _ _ rfl (Hown.out.kp (by repeat (first | (with_reducible exact Kp.refl _) | (with_reducible assumption) | (with_reducible apply Kp.ext) | (with_reducible apply Kp.alloc) | (with_reducible apply Kp.drew) | (with_reducible apply Kp.drewN) | (with_reducible refine Kp.setCell ?_ (by first | (dsimp only; omega) | (simp; omega) | (simp; done) | (simp [size_ext_eq]; omega)) _)))) a' cap' ps rfl (Hin.out.kp (by repeat (first | (with_reducible exact Kp.refl _) | (with_reducible assumption) | (with_reducible apply Kp.ext) | (with_reducible apply Kp.alloc) | (with_reducible apply Kp.drew) | (with_reducible apply Kp.drewN) | (with_reducible refine Kp.setCell ?_ (by first | (dsimp only; omega) | (simp; omega) | (simp; done) | (simp [size_ext_eq]; omega)) _)))) (by omega) (by omega) hkp.size ?_)
      intro v' w1 hown1 hbel1
      have hk1 : Kp wb w1 := Below.trans hkp hbel1
      have Hown1 := Lib.hid hown1
      clear hown1 hbel1
      go_wp2_with fail
      go_roundw
      case rel => exact ⟨k + 1, by omega, by go_num, hk1, by rw [Hnx.out]; exact Hown1.out⟩
      case measure => simp [intOf]; omega
    · obtain rfl : k = s.lists.length := by omega
      have hln := Hb1.out _ (Nat.le_refl _)
      go_wp2_with fail
      go_loopw [3, 23] (fun s3 sj wx => ∃ j : Nat, j ≤ s.parts.length ∧ sj = .int .i64 j ∧ Kp wb wx ∧ OwnP wb.heap.size wx s3 (catTo (lstOf false s) s.lists.length ++ catTo (fun i => ptsSh false d (s.parts.getD i dsh)) j)) (fun _ sj _ => s.parts.length - (intOf sj).toNat)
      case atStart => exact ⟨0, by omega, rfl, hkp, by
        show OwnP _ _ _ (catTo (lstOf false s) s.lists.length ++ [])
        rw [List.append_nil]; exact Hown.out⟩
      case round =>
        obtain ⟨j, hj, rfl, hkx, hown2⟩ := hrel
        obtain ⟨hB', b0', b1', b2'⟩ := hbx.kp hkx
        have Hown2 := Lib.hid hown2
        clear hown2
        by_cases hlt2 : j < s.parts.length
        · obtain ⟨b, off, rfl, hb, hcell⟩ : ∃ b off, a2 = some ⟨b, off, none⟩ ∧ b < w.heap.size ∧ ∀ (i : Nat) (h : i < s.parts.length), ∃ lv' pv', w.cell? ⟨b, off + i * 3, none⟩ = some (.int .i64 (s.parts[i]'h).kind) ∧
              w.cell? ⟨b, off + i * 3 + 1, none⟩ = some lv' ∧ w.cell? ⟨b, off + i * 3 + 2, none⟩ = some pv' ∧ ShIn d w lv' pv' (s.parts[i]'h) := by
            rcases Hparts.out with h | h
            · rw [h] at hlt2; simp at hlt2
            · exact h
          obtain ⟨lv', pv', g0, g1, g2, g3⟩ := hcell j hlt2
          obtain ⟨⟨a3, n3, c3, rfl⟩, a4, n4, c4, rfl⟩ := g3.form
          have hkq := hkb.trans hkx
          have g0 := Kp.cell hkq g0 hb
          have g1 := Kp.cell hkq g1 hb
          have g2 := Kp.cell hkq g2 hb
          have hbx2 := Nat.lt_of_lt_of_le hb hkq.size
          have hI := fun w' (hk' : Kp _ w') => Ih.out j hlt2 _ _ w' ((g3.kp hkq).kp hk')
          have hgd := getD_sh s.parts j hlt2
          have hnx : catTo (fun i => ptsSh false d (s.parts.getD i dsh)) (j + 1) = catTo (fun i => ptsSh false d (s.parts.getD i dsh)) j ++ ptsSh false d (s.parts.getD j dsh) := rfl
          have h4 := H4.out j hlt2
          have hl2 := Hb2.out j hj
          rw [hgd] at hnx h4
          obtain ⟨q, hq⟩ : ∃ q, s.parts[j]'hlt2 = q := ⟨_, rfl⟩
          simp only [hq] at g0 hI hnx h4
          have HI := Lib.hid hI
          have Hnx := Lib.hid hnx
          obtain ⟨qs, hqs⟩ : ∃ qs, ptsSh false d q = qs := ⟨_, rfl⟩
          rw [hqs] at h4 Hnx HI
          have hlsum : (catTo (lstOf false s) s.lists.length ++ catTo (fun i => ptsSh false d (s.parts.getD i dsh)) j).length ≤ 50000000000 := by rw [List.length_append]; omega
          clear hq hgd g3 hcell hI hnx hqs
          go_wp2_with (first | (go_at_call 29; (with_reducible refine (HI.out _ (by repeat (first | (with_reducible exact Kp.refl _) | (with_reducible assumption) | (with_reducible apply Kp.ext) | (with_reducible apply Kp.alloc) | (with_reducible apply Kp.drew) | (with_reducible apply Kp.drewN) | (with_reducible refine Kp.setCell ?_ (by first | (dsimp only; omega) | (simp; omega) | (simp; done) | (simp [size_ext_eq]; omega)) _)))).mono ?_); rintro e w1 ⟨vq, u, rfl, rfl, hpb⟩; obtain ⟨aq, capq, rfl, hinq⟩ := hpb.ptsIn; have Hinq := Lib.hid hinq; clear hinq hpb) | (at_builtin; refine wpList_append_pts rfl (.tmp 27) (.tmp 29) rfl wb.heap.size _ _ rfl (Hown2.out.kp (by repeat (first | (with_reducible exact Kp.refl _) | (with_reducible assumption) | (with_reducible apply Kp.ext) | (with_reducible apply Kp.alloc) | (with_reducible apply Kp.drew) | (with_reducible apply Kp.drewN) | (with_reducible refine Kp.setCell ?_ (by first | (dsimp only; omega) | (simp; omega) | (simp; done) | (simp [size_ext_eq]; omega)) _)))) aq capq qs rfl (Hinq.out.kp (by repeat (first | (with_reducible exact Kp.refl _) | (with_reducible assumption) | (with_reducible apply Kp.ext) | (with_reducible apply Kp.alloc) | (with_reducible apply Kp.drew) | (with_reducible apply Kp.drewN) | (with_reducible refine Kp.setCell ?_ (by first | (dsimp only; omega) | (simp; omega) | (simp; done) | (simp [size_ext_eq]; omega)) _)))) (by omega) (by omega) ?sz ?_))
          case sz => exact Nat.le_trans hkx.size (Kp.size (show Kp _ _ from (by repeat (first | (with_reducible exact Kp.refl _) | (with_reducible assumption) | (with_reducible apply Kp.ext) | (with_reducible apply Kp.alloc) | (with_reducible apply Kp.drew) | (with_reducible apply Kp.drewN) | (with_reducible refine Kp.setCell ?_ (by first | (dsimp only; omega) | (simp; omega) | (simp; done) | (simp [size_ext_eq]; omega)) _)))))
          intro v' w1 hown1 hbel1
          have hk1 : Kp wb w1 := Below.trans (hkx.trans (by repeat (first | (with_reducible exact Kp.refl _) | (with_reducible assumption) | (with_reducible apply Kp.ext) | (with_reducible apply Kp.alloc) | (with_reducible apply Kp.drew) | (with_reducible apply Kp.drewN) | (with_reducible refine Kp.setCell ?_ (by first | (dsimp only; omega) | (simp; omega) | (simp; done) | (simp [size_ext_eq]; omega)) _)))) hbel1
          have Hown1 := Lib.hid hown1
          clear hown1 hbel1
          go_wp2_with fail
          go_roundw
          case rel => exact ⟨j + 1, by omega, by go_num, hk1, by rw [Hnx.out]; exact Hown1.out⟩
          case measure => simp [intOf]; omega
        · obtain rfl : j = s.parts.length := by omega
          have hkq := hkb.trans hkx
          go_wp2_with fail
          go_ret
          refine ⟨_, _, rfl, ext_of hkq, ?_⟩
          exact PtsB.mono Hown2.out.ptsB (by have := Hsb.out; omega) (by first | exact Nat.le_refl _ | simp)
theorem specPoints_c : ∀ (d : Nat) (s : Sh) (lv pv : Value) (w : World), d ≤ 4 → ShIn d w lv pv s → cntOk d s = true → Small d s → Calls Try.prog 29 #[.agg #[.int .i64 s.kind, lv, pv]] w (RetB w fun lo hi w v => PtsB lo hi w v (ptsSh false d s))
  | 0, _, _, _, _, _, _, h, _ => by cases h
  | d + 1, s, lv, pv, w, hd, hs, hok, hsm => by
    obtain ⟨h1, h2, _⟩ := cntOk_parts hok
    obtain ⟨_, _, k3, k4⟩ := shHead_spec h1
    refine specPoints_c_step d s lv pv w hs k3 k4 hsm.1 (fun i hi => ?_) fun i h lv pv w hs => specPoints_c d _ lv pv w (by omega) hs (h2 _ (List.getElem_mem h)).1 (hsm.2 _ (List.getElem_mem h))
    have hm : s.parts.getD i dsh ∈ s.parts := by rw [getD_sh _ _ hi]; exact List.getElem_mem hi
    have h5 := ptsSh_len (o := false) (h2 _ hm).1 (hsm.2 _ hm)
    have h6 : 41 ^ d ≤ 41 ^ 3 := Nat.pow_le_pow_right (by decide) (by omega)
    omega
end Go.Proofs.Ytciaeknfgdckbaa
