/-
  The rule of Douglas and Peucker, walked.
  Douglas and Peucker's simplifier, and impl.Peucker, walked.
-/
import Derived.Test.YtglopopdmkgooaaLineI
import Derived.Test.YtglopopdmkgooaaSeg
import Derived.Test.YtglopopdmkgooaaMPl
import Derived.Test.YtglopopdmkgooaaApp
namespace Go.Proofs.Ytglopopdmkgooaa
open PubFl Go.RowKit PubVis

attribute [local go_sem] cell_ext frozen_ext ext_setCell cell_store size_ext_eq lt_p0 lt_p1 lt_p2 lt_p3 lt_p4 lt_p5 lt_p6 lt_p7 lt_p8 lt_p9 lt_p10 lt_p11 lt_p12 lt_p13 lt_p14 lt_p15 lt_p16 lt_p17 lt_p18 lt_p19 lt_p20 lt_p21 lt_p22 lt_p23 lt_p24 lt_p25 lt_p26 lt_p27 lt_p28 lt_p29 lt_p30 lt_p31 lt_p32 lt_q1 lt_q2 lt_q3 lt_q4 lt_q5 lt_q6 lt_q7 lt_q8 lt_q9 lt_q10 lt_q11 lt_q12 lt_q13 lt_q14 lt_q15 lt_q16 lt_q17 lt_q18 lt_q19 lt_q20 lt_q21 lt_q22 lt_q23 lt_q24 lt_q25 lt_q26 lt_q27 lt_q28 lt_q29 lt_q30 lt_q31 lt_q32 run_fop run_store_float
attribute [local go_sem high] cmp_eql cmp_neq cmp_lss cmp_leq cmp_gtr cmp_geq

/-- a mask of bytes, at a block -/
structure MaskAt (w : World) (M n : Nat) (K : Nat → Bool) : Prop where
  lt : M < w.heap.size
  cell : ∀ i, i < n → w.cell? ⟨M, i, none⟩ = some (.int .u8 (if K i = true then 1 else 0))
  fz : ∀ i, w.frozen? ⟨M, i, none⟩ = false
theorem MaskAt.kp {w w' : World} {M n : Nat} {K : Nat → Bool} (h : MaskAt w M n K) (k : Kp w w') : MaskAt w' M n K :=
  ⟨Nat.lt_of_lt_of_le h.lt k.size, fun i hi => Kp.cell k (h.cell i hi) h.lt, fun i => (Below.frozen (p := ⟨M, i, none⟩) k h.lt).trans (h.fz i)⟩
theorem MaskAt.set {w : World} {M n : Nat} {K : Nat → Bool} (h : MaskAt w M n K) (m : Nat) : MaskAt (w.setCell ⟨M, m, none⟩ (.int .u8 1)) M n (upd K m true) :=
  ⟨by simpa using h.lt, fun i hi => by
    have := h.cell i hi
    by_cases c : i = m
    · subst c
      rw [upd_same, cell_store, this]; rfl
    · rw [upd_other _ _ c, World.cell?_setCell_other _ _ _ _ (fun e => c (by injection e with _ e _; exact e.symm))]; exact this, fun i => by simpa using h.fz i⟩
theorem MaskAt.other {w : World} {M n : Nat} {K : Nat → Bool} (h : MaskAt w M n K) {g : Nat} (hg : g ≠ M) (o : Nat) (v : Value) : MaskAt (w.setCell ⟨g, o, none⟩ v) M n K :=
  ⟨by simpa using h.lt, fun i hi => by rw [World.cell?_setCell_other _ _ _ _ (fun e => hg (by injection e))]; exact h.cell i hi, fun i => by simpa using h.fz i⟩
theorem MaskAt.grown {w w' : World} {M n : Nat} {K : Nat → Bool} {row : Option Nat} (h : MaskAt w M n K) (hg : w.grownBy w' row) (hne : row ≠ some M) : MaskAt w' M n K :=
  ⟨Nat.lt_of_lt_of_le h.lt hg.size, fun i hi => (grown_cell hg h.lt hne).trans (h.cell i hi), fun i => (grown_frozen hg h.lt hne).trans (h.fz i)⟩
theorem ownsRow_kp {w w' : World} {base : Nat} {e : TypeId} {size : Nat} {v : Value} {n : Nat} {xs : List Value} (h : w.ownsRow base e size v n xs) (k : Kp w w') : w'.ownsRow base e size v n xs := by
  obtain ⟨h1, h2⟩ := h
  refine ⟨h1, ?_⟩
  rcases h2 with h2 | ⟨g, cap, cur, a, b, c, d⟩
  · exact .inl h2
  · exact .inr ⟨g, cap, cur, a, b, (k.block g (by
      rcases Nat.lt_or_ge g w.heap.size with q | q
      · exact q
      · rw [Array.getElem?_eq_none q] at c; cases c)).trans c, d⟩
theorem Kx.fresh {S : List Nat} {w w' : World} (h : Kx S w w') {g : Nat} (hg : w.heap.size ≤ g) (o : Nat) (v : Value) : Kx S w (w'.setCell ⟨g, o, none⟩ v) :=
  ⟨h.os, h.tape, h.output, by simpa using h.size, fun b hb hn => (Below.heap_setCell _ _ _ _ (fun e => by dsimp only at e; omega)).trans (h.block b hb hn)⟩
theorem Kx.grown {S : List Nat} {w w' w'' : World} {row : Option Nat} (h : Kx S w w') (hg : w'.grownBy w'' row) (hr : ∀ q, row = some q → w.heap.size ≤ q) : Kx S w w'' :=
  ⟨hg.os.trans h.os, hg.tape.trans h.tape, hg.output.trans h.output, Nat.le_trans h.size hg.size, fun b hb hn => (hg.block b (Nat.lt_of_lt_of_le hb h.size) (fun e => by have := hr b e.symm; omega)).trans (h.block b hb hn)⟩

theorem PtsAt.kx1 {w w' : World} {b M : Nat} {ps : List (Nat × Nat)} (h : PtsAt w b 0 ps) (hb : b < w.heap.size) (hne : b ≠ M) (k : Kx [M] w w') : PtsAt w' b 0 ps := fun i hi => by
  obtain ⟨h0, h1⟩ := h i hi
  exact ⟨(k.cell hb (by simpa using hne)).trans h0, (k.cell hb (by simpa using hne)).trans h1⟩
/-- the stack's cells -/
def stkCells : List (Nat × Nat) → List Value
  | [] => []
  | (s, e) :: st => stkCells st ++ [.int .i64 (s : Nat), .int .i64 (e : Nat)]
theorem stkCells_length : ∀ st, (stkCells st).length = 2 * st.length
  | [] => rfl
  | (s, e) :: st => by
    show (stkCells st ++ _).length = _
    rw [List.length_append, stkCells_length st]; simp; omega
structure DpRel (w wr : World) (n M : Nat) (near : Nat → Nat → Nat → Prop) (K : Nat → Bool) (st : List (Nat × Nat)) (e : Nat) (v : Value) : Prop where
  inv : DpInv n near K st e
  own : wr.ownsRow w.heap.size 3 1 v (2 * st.length) (stkCells st)
  mask : MaskAt wr M n K
  kx : Kx [M] w wr
  cn : cnt K n ≤ n
def DpPost (w : World) (n M : Nat) (near : Nat → Nat → Nat → Prop) (e : Ending) (w' : World) : Prop := ∃ K, e = .returned (.int .i64 (cnt K n : Nat)) ∧ DpRes n near K ∧ MaskAt w' M n K ∧ Kx [M] w w'
/-- how far the look for the farthest has come -/
structure InRel (q : Nat → Nat → Nat → Rat) (s e i md mi : Nat) (mq : Rat) : Prop where
  v : IsV md mq
  si : s < i
  ie : i ≤ e
  all : ∀ k, s < k → k < i → q s e k ≤ mq
  at' : mq = 0 ∨ s < mi ∧ mi < i ∧ mq = q s e mi
theorem ownsRow_shape {w : World} {base : Nat} {e : TypeId} {size : Nat} {v : Value} {n : Nat} {xs : List Value} (h : w.ownsRow base e size v n xs) : ∃ a c, v = .slice a n c := by
  rcases h.2 with ⟨h0, h1⟩ | ⟨g, cap, cur, hv, _⟩
  · exact ⟨none, 0, by rw [h0, h1]⟩
  · exact ⟨_, _, hv⟩
def sliceLen : Value → Nat
  | .slice _ n _ => n
  | _ => 0
theorem ownsRow_some {w : World} {base : Nat} {e : TypeId} {size : Nat} {v : Value} {n : Nat} {xs : List Value} (h : w.ownsRow base e size v n xs) (hn : 0 < n) : ∃ g c, v = .slice (some ⟨g, 0, none⟩) n c ∧ base ≤ g ∧ g < w.heap.size ∧ n ≤ c := by
  rcases h.2 with ⟨h0, h1⟩ | ⟨g, cap, cur, hv, hg, hh, h1, _⟩
  · omega
  · refine ⟨g, cap, hv, hg, ?_, h1⟩
    rcases Nat.lt_or_ge g w.heap.size with q | q
    · exact q
    · rw [Array.getElem?_eq_none q] at hh; cases hh
theorem ownsRow_cut {w : World} {base : Nat} {e : TypeId} {size g cap m k : Nat} {xs ys : List Value} (hx : xs.length = m * size) (h : w.ownsRow base e size (.slice (some ⟨g, 0, none⟩) (m + k) cap) (m + k) (xs ++ ys)) : w.ownsRow base e size (.slice (some ⟨g, 0, none⟩) m cap) m xs := by
  obtain ⟨_, h2⟩ := h
  rcases h2 with ⟨h0, _⟩ | ⟨g', cap', cur, hv, hg, hh, hn, hcap, hsz, htake⟩
  · cases h0
  · cases hv
    refine ⟨hx, .inr ⟨g, cap, cur, rfl, hg, hh, by omega, hcap, hsz, ?_⟩⟩
    have h3 : (cur.toList.take ((m + k) * size)).take (m * size) = (xs ++ ys).take (m * size) := by rw [htake]
    rw [List.take_take, Nat.min_eq_left (Nat.mul_le_mul_right _ (by omega))] at h3
    rw [h3, ← hx, List.take_left]
theorem infoIntT : (Try.prog.info? 3).map (fun i => (i.zero, i.size, i.bytes)) = some (some (.int .i64 0), 1, 8) := by kernel_rfl

set_option maxRecDepth 100000 in
set_option maxHeartbeats 2000000 in
theorem dpWorker_c (b cap M mc t : Nat) (ps : List (Nat × Nat)) (X Y : Nat → Int) (D : Nat → Nat → Nat → Nat) (q : Nat → Nat → Nat → Rat) (T2 : Rat) (hn : ps.length ≤ 1000) (h2 : 2 ≤ ps.length) (w : World) (hb : b < w.heap.size) (hbM : b ≠ M) (hpt : PtsAt w b 0 ps)
    (hm : MaskAt w M ps.length (fun q => decide (q = 0 ∨ q = ps.length - 1))) (F : SegFun ps X Y D q) (ot : FOk .mul t t) (vt : IsV (fop .mul t t) T2) (hT : 0 ≤ T2) :
    Calls Try.prog 79 #[.slice (some ⟨b, 0, none⟩) ps.length cap, .float .f64 t, .slice (some ⟨M, 0, none⟩) ps.length mc] w (DpPost w ps.length M (fun a b k => q a b k ≤ T2)) := by
  obtain ⟨i0, hi, hz0, hz1, hz2⟩ := info_parts infoIntT
  have Hpt := Lib.hid hpt
  have HF := Lib.hid F
  have Hm := Lib.hid hm
  have Hvt := Lib.hid vt
  obtain ⟨n, hnn⟩ : ∃ n, ps.length = n := ⟨_, rfl⟩
  rw [hnn] at Hm hn h2 ⊢
  have Hn := Lib.hid hnn
  clear hpt hm F vt hnn
  go_enter Try.func79, Try.ntmps79
  go_wp2_with (at_builtin; refine wpList_append_own2 _ rfl (.tmp 15) (.tmp 19) 26 rfl w.heap.size 3 i0 (.int .i64 0) 1 8 Try.underlying26 hi hz0 hz1 hz2 rfl (by decide) _ 0 _ rfl (World.ownsRow_nil _ _ _ _) ⟨w.heap.size, 0, none⟩ 2 2 [.int .i64 0, .int .i64 ((n : Int) - 1)] rfl rfl (cell_two_new _ _ _ _) ?c2 ?c3 ?c4 ?c5 ?_)
  case c2 => intro u hu; simp only [List.mem_cons, List.not_mem_nil, or_false] at hu; rcases hu with rfl | rfl <;> rfl
  case c3 => unfold maxLen; omega
  case c4 => omega
  case c5 => simp
  intro v' w1 hown1 hgrow1 hblk
  have H0 := Lib.hid (show DpRel w w1 n M (fun a b k => q a b k ≤ T2) _ [(0, n - 1)] (n - 1) v' from ⟨DpInv.start h2, by
      rw [show ((n : Int) - 1) = ((n - 1 : Nat) : Int) by omega] at hown1; exact hown1, (Hm.out.kp ((Kp.refl w).alloc _)).grown hgrow1 (by simp [Value.ownBlock]), (Kx.of_kp ((Kp.refl w).alloc _)).grown hgrow1 (by simp [Value.ownBlock]), cnt_le _ _⟩)
  clear hown1 hgrow1 hblk
  go_wp2_with fail
  go_loopw [7, 8] (fun s7 s8 wr => ∃ (K : Nat → Bool) (st : List (Nat × Nat)) (e : Nat), s7 = .int .i64 (cnt K n : Nat) ∧ DpRel w wr n M (fun a b k => q a b k ≤ T2) K st e s8) (fun s7 s8 _ => 4 * (n - (intOf s7).toNat) + sliceLen s8)
  case atStart => exact ⟨_, _, _, by rw [cnt_two h2]; rfl, H0.out⟩
  case round =>
    clear H0
    obtain ⟨K, st, e, rfl, hr⟩ := hrel
    generalize wr = wo at *
    match st, hr with
    | [], hr =>
      obtain ⟨a, c, rfl⟩ := ownsRow_shape hr.own
      have Hr := Lib.hid hr
      clear hr
      go_wp2_with fail
      go_ret
      exact ⟨K, rfl, Hr.out.inv.done, Hr.out.mask, Hr.out.kx⟩
    | (s, e') :: st, hr =>
      obtain ⟨he', hse, _⟩ := hr.inv.tiles
      subst he'
      have hen := hr.inv.en
      have ho := hr.own
      have hx : stkCells ((s, e') :: st) = stkCells st ++ [.int .i64 (s : Nat), .int .i64 (e' : Nat)] := rfl
      have hl := stkCells_length st
      rw [show 2 * ((s, e') :: st).length = 2 * st.length + 2 by simp; omega, hx] at ho
      obtain ⟨m, hm⟩ : ∃ m, 2 * st.length = m := ⟨_, rfl⟩
      rw [hm] at ho hl
      obtain ⟨g, c, rfl, hg1, hg2, hmc⟩ := ownsRow_some ho (by omega)
      have cs := ho.cellAt m (by omega)
      have ce := ho.cellAt (m + 1) (by omega)
      rw [List.getElem?_append_right (by omega), hl] at cs ce
      simp only [Nat.sub_self, Nat.add_sub_cancel_left, List.getElem?_cons_zero, List.getElem?_cons_succ] at cs ce
      have hgM : g ≠ M := by have := hr.mask.lt; have := Hm.out.lt; omega
      have fz := ho.frozenAt
      have hml : m ≤ 2000 := by have := hr.inv.tiles.len; rw [List.length_cons] at this; omega
      have Hr := Lib.hid hr
      have Ho := Lib.hid ho
      have Hmm := Lib.hid hm
      clear hr ho hx hl hm fz
      go_wp2_with fail
      go_loopw [11, 12, 13] (fun s11 s12 s13 wi => ∃ (i mi md : Nat) (mq : Rat), s11 = .float .f64 md ∧ s12 = .int .i64 (mi : Nat) ∧ s13 = .int .i64 (i : Nat) ∧ InRel q s e' i md mi mq ∧ Kp wo wi) (fun _ _ s13 _ => e' - (intOf s13).toNat)
      case atStart => exact ⟨s + 1, 0, 0, 0, rfl, rfl, by go_num, ⟨zero_isV, by omega, by omega, fun k h1 h2 => by omega, .inl rfl⟩, Kp.refl _⟩
      case round =>
        obtain ⟨i, mi, md, mq, rfl, rfl, rfl, hin, hkp⟩ := hrel
        have hie := hin.ie
        have hsi := hin.si
        by_cases hlt : i < e'
        · have hnn := Hn.out
          have hbr : b < wo.heap.size := Nat.lt_of_lt_of_le hb Hr.out.kx.size
          have hpw := (Hpt.out.kx1 hb hbM Hr.out.kx).kp hbr hkp
          have hbi : b < wr.heap.size := Nat.lt_of_lt_of_le hbr hkp.size
          obtain ⟨a0, a1⟩ := hpw s (by omega)
          obtain ⟨b0, b1⟩ := hpw e' (by omega)
          obtain ⟨c0, c1⟩ := hpw i (by omega)
          have sk := HF.out.ok s e' i (by omega) (by omega) (by omega)
          obtain ⟨vd, _⟩ := HF.out.v s e' i (by omega) (by omega) (by omega)
          have cmp := gtF_isV vd hin.v
          obtain ⟨⟨sx, sy⟩, hq1⟩ : ∃ p, ps[s]'(by omega) = p := ⟨_, rfl⟩
          obtain ⟨⟨ex, ey⟩, hq2⟩ : ∃ p, ps[e']'(by omega) = p := ⟨_, rfl⟩
          obtain ⟨⟨ix, iy⟩, hq3⟩ : ∃ p, ps[i]'(by omega) = p := ⟨_, rfl⟩
          simp only [hq1, hq2, hq3, Nat.zero_add] at a0 a1 b0 b1 c0 c1 sk
          obtain ⟨dw, hdw⟩ : ∃ dw, D s e' i = dw := ⟨_, rfl⟩
          obtain ⟨qw, hqw⟩ : ∃ qw, q s e' i = qw := ⟨_, rfl⟩
          rw [hdw, hqw] at vd cmp
          rw [hdw] at sk
          have Hqw := Lib.hid hqw
          have Hin := Lib.hid hin
          clear hq1 hq2 hq3 hpw hnn hin hdw hqw
          by_cases hlt2 : mq < qw
          · rw [decide_eq_true hlt2] at cmp
            go_wp2_with fail
            first | (with_reducible refine wp_region_ext_lit2 ?_ ?_ ?_) | refine wp_region_ext_lit ?_ ?_ ?_
            kernel_rfl
            kernel_rfl
            repeat (go_big_quiet_step ((go_at_call 80; with_reducible exact Ret.quiet (dseg_c _ _ _ _ _ _ _ sk _))))
            refine wpQuiet_nil ?_
            rintro _ ⟨u, rfl⟩
            go_wp2_with fail
            go_roundw
            case rel =>
              refine ⟨i + 1, i, dw, qw, rfl, rfl, by go_num, ⟨vd, by omega, by omega, fun k h1 h2 => ?_, .inr ⟨hsi, by omega, Hqw.out.symm⟩⟩, hkp.ext u⟩
              by_cases c : k = i
              · subst c; rw [Hqw.out]; exact Rat.le_refl
              · exact Rat.le_trans (Hin.out.all k h1 (by omega)) (Rat.le_of_lt hlt2)
            case measure => simp [intOf]; omega
          · rw [decide_eq_false hlt2] at cmp
            go_wp2_with fail
            first | (with_reducible refine wp_region_ext_lit2 ?_ ?_ ?_) | refine wp_region_ext_lit ?_ ?_ ?_
            kernel_rfl
            kernel_rfl
            repeat (go_big_quiet_step ((go_at_call 80; with_reducible exact Ret.quiet (dseg_c _ _ _ _ _ _ _ sk _))))
            refine wpQuiet_nil ?_
            rintro _ ⟨u, rfl⟩
            go_wp2_with fail
            go_roundw
            case rel =>
              refine ⟨i + 1, mi, md, mq, rfl, rfl, by go_num, ⟨Hin.out.v, by omega, by omega, fun k h1 h2 => ?_, ?_⟩, hkp.ext u⟩
              · by_cases c : k = i
                · subst c; rw [Hqw.out]; exact Rat.not_lt.1 hlt2
                · exact Hin.out.all k h1 (by omega)
              · rcases Hin.out.at' with c | ⟨c1, c2, c3⟩
                · exact .inl c
                · exact .inr ⟨c1, by omega, c3⟩
            case measure => simp [intOf]; omega
        · have hie2 : e' = i := by omega
          subst hie2
          have cmp := gtF_isV hin.v Hvt.out
          have Hin := Lib.hid hin
          clear hin
          by_cases hfar : T2 < mq
          · rw [decide_eq_true hfar] at cmp
            obtain ⟨hm1, hm2, hm3⟩ : s < mi ∧ mi < e' ∧ mq = q s e' mi := by
              rcases Hin.out.at' with c | c
              · rw [c] at hfar; exact absurd hfar (Rat.not_lt.2 hT)
              · exact c
            have mk := Hr.out.mask.kp hkp
            have mc0 := mk.cell mi (by omega)
            have mf := mk.fz mi
            have ml := mk.lt
            have mk1 := mk.set mi
            have og := ownsRow_setCell_below (ownsRow_kp Ho.out hkp) (a := ⟨M, mi, none⟩) Hm.out.lt (.int .u8 1)
            have cg := og.cellAt (m + 1) (by omega)
            have fg := og.frozenAt (m + 1)
            have hst := (og.stored (m + 1) (.int .i64 (mi : Nat))).1
            have hset : (stkCells st ++ [Value.int .i64 (s : Nat), .int .i64 (e' : Nat)]).set (m + 1) (.int .i64 (mi : Nat)) = stkCells st ++ [.int .i64 (s : Nat), .int .i64 (mi : Nat)] := by
              have hl := stkCells_length st
              have := Hmm.out
              rw [List.set_append_right _ _ (by omega), show m + 1 - (stkCells st).length = 1 by omega]; rfl
            rw [hset] at hst
            have hcell : (stkCells st ++ [Value.int .i64 (s : Nat), .int .i64 (e' : Nat)])[m + 1]? = some (.int .i64 (e' : Nat)) := by
              have hl := stkCells_length st
              have := Hmm.out
              rw [List.getElem?_append_right (by omega), show m + 1 - (stkCells st).length = 1 by omega]; rfl
            rw [hcell] at cg
            have hKm : K mi = false := (Hr.out.inv.on (s, e') (List.mem_cons_self ..)).2 mi hm1 hm2
            have hcn := cnt_on hKm n (by omega)
            have hcn2 := Hr.out.cn
            have mk2 := mk1.other hgM (m + 1) (.int .i64 (mi : Nat))
            have hkx2 := ((Hr.out.kx.trans (.of_kp hkp)).setCell (g := M) (by simp) mi (.int .u8 1)).fresh hg1 (m + 1) (.int .i64 (mi : Nat))
            have Hst := Lib.hid hst
            have Mk2 := Lib.hid mk2
            have Hkx2 := Lib.hid hkx2
            have Hcn := Lib.hid hcn
            have Hm3 := Lib.hid hm3
            have Hfar := Lib.hid hfar
            have HKm := Lib.hid hKm
            have hcn3 : cnt K n + 1 ≤ n := by have := cnt_le (upd K mi true) n; omega
            clear hset hcell hst mk mk1 mk2 hkx2 og hKm hcn hm3 hfar
            go_wp2_with (at_builtin; refine wpList_append_own2 _ rfl (.tmp 77) (.tmp 80) 26 rfl w.heap.size 3 i0 (.int .i64 0) 1 8 Try.underlying26 hi hz0 hz1 hz2 rfl (by decide) _ (m + 2) _ rfl (Hst.out.alloc _) ⟨wr.heap.size, 0, none⟩ 2 2 [.int .i64 (mi : Nat), .int .i64 (e' : Nat)] rfl rfl ?d1 ?d2 ?d3 ?d4 ?d5 ?_)
            case d1 =>
              have h := cell_two_new ((wr.setCell ⟨M, mi, none⟩ (.int .u8 1)).setCell ⟨g, m + 1, none⟩ (.int .i64 (mi : Nat))) (.int .i64 (mi : Nat)) (.int .i64 (e' : Nat)) 3
              rw [show ((wr.setCell ⟨M, mi, none⟩ (.int .u8 1)).setCell ⟨g, m + 1, none⟩ (.int .i64 (mi : Nat))).heap.size = wr.heap.size by simp] at h
              exact h
            case d2 => intro u hu; simp only [List.mem_cons, List.not_mem_nil, or_false] at hu; rcases hu with rfl | rfl <;> rfl
            case d3 => unfold maxLen; omega
            case d4 => omega
            case d5 => have := Hkx2.out.size; simp at this ⊢; omega
            intro v2 w2 hown2 hgrow2 hblk2
            have hsM : g ≠ M := hgM
            have H2 := Lib.hid (show DpRel w w2 n M (fun a b k => q a b k ≤ T2) (upd K mi true) ((mi, e') :: (s, mi) :: st) e' v2 from ⟨Hr.out.inv.split hm1 hm2 (fun c => Rat.not_le.2 Hfar.out (by rw [Hm3.out]; exact c)), by
              rw [show 2 * ((mi, e') :: (s, mi) :: st).length = m + 2 + 2 by have := Hmm.out; simp; omega, show stkCells ((mi, e') :: (s, mi) :: st) = stkCells st ++ [.int .i64 (s : Nat), .int .i64 (mi : Nat), .int .i64 (mi : Nat), .int .i64 (e' : Nat)] by simp [stkCells]]; exact hown2,
              (Mk2.out.kp ((Kp.refl _).alloc _)).grown hgrow2 (by simpa [Value.ownBlock] using hsM), (Hkx2.out.trans (.of_kp ((Kp.refl _).alloc _))).grown hgrow2 (fun q hq => by simp [Value.ownBlock] at hq; omega), cnt_le _ _⟩)
            obtain ⟨a2, c2, rfl⟩ := ownsRow_shape hown2
            clear hown2 hgrow2 hblk2
            go_wp2_with fail
            go_roundw
            case rel => exact ⟨_, _, _, by rw [Hcn.out]; rfl, H2.out⟩
            case measure => simp [intOf, sliceLen]; omega
          · rw [decide_eq_false hfar] at cmp
            have Hhf := Lib.hid hfar
            clear hfar
            go_wp2_with fail
            go_roundw
            case rel => exact ⟨K, st, s, rfl, Hr.out.inv.pop (fun k h1 h2 => Rat.le_trans (Hin.out.all k h1 h2) (Rat.not_lt.1 Hhf.out)), by rw [Hmm.out]; exact ownsRow_cut (by rw [stkCells_length, Hmm.out]; omega) (ownsRow_kp Ho.out hkp), Hr.out.mask.kp hkp, Hr.out.kx.trans (.of_kp hkp), Hr.out.cn⟩
            case measure => simp [intOf, sliceLen]
end Go.Proofs.Ytglopopdmkgooaa

namespace Go.Proofs.Ytglopopdmkgooaa
open PubFl Go.RowKit PubVis

attribute [local go_sem] cell_ext frozen_ext ext_setCell cell_store size_ext_eq lt_p0 lt_p1 lt_p2 lt_p3 lt_p4 lt_p5 lt_p6 lt_p7 lt_p8 lt_p9 lt_p10 lt_p11 lt_p12 lt_p13 lt_p14 lt_p15 lt_p16 lt_p17 lt_p18 lt_p19 lt_p20 lt_p21 lt_p22 lt_p23 lt_p24 lt_p25 lt_p26 lt_p27 lt_p28 lt_p29 lt_p30 lt_p31 lt_p32 lt_q1 lt_q2 lt_q3 lt_q4 lt_q5 lt_q6 lt_q7 lt_q8 lt_q9 lt_q10 lt_q11 lt_q12 lt_q13 lt_q14 lt_q15 lt_q16 lt_q17 lt_q18 lt_q19 lt_q20 lt_q21 lt_q22 lt_q23 lt_q24 lt_q25 lt_q26 lt_q27 lt_q28 lt_q29 lt_q30 lt_q31 lt_q32 run_fop run_store_float
attribute [local go_sem high] cmp_eql cmp_neq cmp_lss cmp_leq cmp_gtr cmp_geq

theorem infoU8 : (Try.prog.info? 5).map (fun i => (i.zero, i.size, i.bytes)) = some (some (.int .u8 0), 1, 1) := by kernel_rfl
theorem made_one (w : World) (n j : Nat) (z : Value) (e : TypeId) (hj : j < n) : (w.alloc (.cells (madeCells #[z] n) e)).cell? ⟨w.heap.size, j, none⟩ = some z := by
  have hr := cell_of_row (w.alloc (.cells (madeCells #[z] n) e)) w.heap.size j (madeCells #[z] n) e (0, 0) (heap_alloc_new w _)
  rw [hr]
  simp [madeCells, hj, Nat.mod_one]
theorem made_get (n j : Nat) (z : Value) (hj : j < n) : (madeCells #[z] n)[j]? = some z := by simp [madeCells, hj, Nat.mod_one]
theorem mask_new (w : World) (n : Nat) : MaskAt (w.alloc (.cells (madeCells #[.int .u8 0] n) 5)) w.heap.size n (fun _ => false) :=
  ⟨by simp, fun i hi => by
    have := made_one w n i (.int .u8 0) 5 hi
    rw [this]; rfl, fun i => frozen_new w _ _ i⟩
theorem mask_start {w : World} {M n : Nat} (h : MaskAt w M n (fun _ => false)) : MaskAt ((w.setCell ⟨M, 0, none⟩ (.int .u8 1)).setCell ⟨M, n - 1, none⟩ (.int .u8 1)) M n (fun q => decide (q = 0 ∨ q = n - 1)) := by
  have := (h.set 0).set (n - 1)
  have e : upd (upd (fun _ => false) 0 true) (n - 1) true = fun q => decide (q = 0 ∨ q = n - 1) := by
    funext q
    by_cases c : q = n - 1
    · rw [c, upd_same]; exact (decide_eq_true (.inr rfl)).symm
    · rw [upd_other _ _ c]
      by_cases c2 : q = 0
      · subst c2; rw [upd_same]; exact (decide_eq_true (.inl rfl)).symm
      · rw [upd_other _ _ c2]; exact (decide_eq_false (by omega)).symm
  rw [e] at this
  exact this
def DpOut (ps : List (Nat × Nat)) (near : Nat → Nat → Nat → Prop) (out : List (Nat × Nat)) : Prop := ∃ K, DpRes ps.length near K ∧ out = (kept K ps.length).map (ptAt ps)
/-- the line while it is made shorter -/
structure CutRel (w wr : World) (M g n : Nat) (K : Nat → Bool) (ps : List (Nat × Nat)) (j : Nat) : Prop where
  bel : Below g w wr
  mask : MaskAt wr M n K
  pts : PtsAt wr g 0 (radL ps ((kept K j).map (ptAt ps)))
  fz : ∀ j, wr.frozen? ⟨g, j, none⟩ = false
  lt : g < wr.heap.size

set_option maxRecDepth 100000 in
set_option maxHeartbeats 2000000 in
theorem dpSimplify_c (R g cap t : Nat) (ps : List (Nat × Nat)) (X Y : Nat → Int) (D : Nat → Nat → Nat → Nat) (q : Nat → Nat → Nat → Rat) (T2 : Rat) (hn : ps.length ≤ 1000) (h2 : 2 ≤ ps.length) (hcap : ps.length ≤ cap) (w : World) (hR : R < g) (hg : g < w.heap.size)
    (r0 : w.cell? ⟨R, 0, none⟩ = some (.float .f64 t)) (hs : PtsAt w g 0 ps) (hf : ∀ j, w.frozen? ⟨g, j, none⟩ = false) (F : SegFun ps X Y D q) (ot : FOk .mul t t) (vt : IsV (fop .mul t t) T2) (hT : 0 ≤ T2) (a1 : Bool) :
    Calls Try.prog 78 #[.pointer (some ⟨R, 0, none⟩), .slice (some ⟨g, 0, none⟩) ps.length cap, .bool a1, .bool false] w (fun e w' => ∃ out, DpOut ps (fun a b k => q a b k ≤ T2) out ∧ SimPost w g cap out e w') := by
  obtain ⟨iu, hiu, hu0, hu1, hu2⟩ := info_parts infoU8
  have hmk : ∀ w, (Instr.makeSlice 109 (.int .i64 (ps.length : Int)) (.int .i64 (ps.length : Int))).run Try.prog w = .ok (.slice (some ⟨w.heap.size, 0, none⟩) ps.length ps.length) (w.alloc (.cells (madeCells #[.int .u8 0] ps.length) 5)) := fun w => by
    have := run_make (P := Try.prog) w 109 5 iu (.int .u8 0) Try.underlying109 hiu hu0 .i64 .i64 (ps.length : Int) (ps.length : Int) (by omega) (by omega) (by rw [hu2]; omega) (by omega)
    rw [this, hu1, Nat.mul_one]
    rfl
  have HD := Lib.hid (fun w' (hb : g < w'.heap.size) (hbM : g ≠ w.heap.size) (hpt : PtsAt w' g 0 ps) (hm : MaskAt w' w.heap.size ps.length (fun q => decide (q = 0 ∨ q = ps.length - 1))) => dpWorker_c g cap w.heap.size ps.length t ps X Y D q T2 hn h2 w' hb hbM hpt hm F ot vt hT)
  have Hs := Lib.hid hs
  have Hf := Lib.hid hf
  have hm0 := mask_new w ps.length
  obtain ⟨n, hnn⟩ : ∃ n, ps.length = n := ⟨_, rfl⟩
  rw [hnn] at hmk HD hm0 hn h2 hcap ⊢
  have hst := mask_start hm0
  have hW0 : ((w.alloc (.cells (madeCells #[.int .u8 0] n) 5)).setCell ⟨w.heap.size, 0, none⟩ (.int .u8 1)).setCell ⟨w.heap.size, n - 1, none⟩ (.int .u8 1) = w.alloc (.cells (((madeCells #[.int .u8 0] n).setIfInBounds 0 (.int .u8 1)).setIfInBounds (n - 1) (.int .u8 1)) 5) := by
    rw [World.setCell_alloc_at _ _ _ _ _ rfl, World.setCell_alloc_at _ _ _ _ _ rfl]
  rw [hW0] at hst
  have Hst := Lib.hid hst
  have Hn := Lib.hid hnn
  have m1 : (madeCells #[.int .u8 0] n)[0]? = some (Value.int .u8 0) := made_get n 0 _ (by omega)
  have m2 : ((madeCells #[.int .u8 0] n).setIfInBounds 0 (.int .u8 1))[n - 1]? = some (Value.int .u8 0) := by
    rw [Array.getElem?_setIfInBounds, if_neg (by omega)]
    exact made_get n (n - 1) _ (by omega)
  have hRw : R < w.heap.size := by omega
  have hr1 : (w.alloc (.cells (((madeCells #[.int .u8 0] n).setIfInBounds 0 (.int .u8 1)).setIfInBounds (n - 1) (.int .u8 1)) 5)).cell? ⟨R, 0, none⟩ = some (.float .f64 t) := Kp.cell (by repeat (first | (with_reducible exact Kp.refl _) | (with_reducible assumption) | (with_reducible apply Kp.ext) | (with_reducible apply Kp.alloc) | (with_reducible apply Kp.drew) | (with_reducible apply Kp.drewN) | (with_reducible refine Kp.setCell ?_ (by first | (dsimp only; omega) | (simp; omega) | (simp; done) | (simp [size_ext_eq]; omega)) _))) r0 hRw
  clear hs hf hm0 hst hW0 hnn F vt hT
  go_enter Try.func78, Try.ntmps78
  go_wp2_with (go_at_call 79; (with_reducible refine (HD.out _ (by simp; omega) (by omega) (Hs.out.kp hg (by repeat (first | (with_reducible exact Kp.refl _) | (with_reducible assumption) | (with_reducible apply Kp.ext) | (with_reducible apply Kp.alloc) | (with_reducible apply Kp.drew) | (with_reducible apply Kp.drewN) | (with_reducible refine Kp.setCell ?_ (by first | (dsimp only; omega) | (simp; omega) | (simp; done) | (simp [size_ext_eq]; omega)) _)))) Hst.out).mono ?_); rintro e w1 ⟨K, rfl, hres, hmk1, hkx⟩; have Hres := Lib.hid hres; have Hmk := Lib.hid hmk1; have Hkx := Lib.hid hkx; clear hres hmk1 hkx)
  have hkp1 : Kp w w1 := Hkx.out.kp (by repeat (first | (with_reducible exact Kp.refl _) | (with_reducible assumption) | (with_reducible apply Kp.ext) | (with_reducible apply Kp.alloc) | (with_reducible apply Kp.drew) | (with_reducible apply Kp.drewN) | (with_reducible refine Kp.setCell ?_ (by first | (dsimp only; omega) | (simp; omega) | (simp; done) | (simp [size_ext_eq]; omega)) _))) (by simp)
  have H0 := Lib.hid (show CutRel w w1 w.heap.size g n K ps 0 from ⟨Below.mono hkp1 (by omega), Hmk.out, by
    show PtsAt w1 g 0 (radL ps [])
    rw [radL_nil]; exact Hs.out.kp hg hkp1, fun j => (Below.frozen (p := ⟨g, j, none⟩) hkp1 hg).trans (Hf.out j), Nat.lt_of_lt_of_le hg hkp1.size⟩)
  clear hkp1 Hst Hkx Hmk HD hr1 m1 m2 r0
  go_loopw [13, 38] (fun s13 s38 wr => ∃ j : Nat, j ≤ n ∧ s38 = .int .i64 (j : Nat) ∧ s13 = .int .i64 (cnt K j : Nat) ∧ CutRel w wr w.heap.size g n K ps j) (fun _ s38 _ => n - (intOf s38).toNat)
  case atStart => exact ⟨0, by omega, rfl, rfl, H0.out⟩
  case round =>
    clear H0
    obtain ⟨j, hj, rfl, rfl, hr⟩ := hrel
    have hct := cnt_le K j
    have hlen := kept_length K j
    by_cases hlt : j < n
    · have cm := hr.mask.cell j hlt
      have lm := hr.mask.lt
      have lg := hr.lt
      cases hK : K j
      · rw [hK] at cm
        simp only [Bool.false_eq_true, if_false] at cm
        have hcn : cnt K (j + 1) = cnt K j := by show cnt K j + _ = _; rw [hK]; rfl
        have hkn : kept K (j + 1) = kept K j := by show (if K j = true then _ else _) = _; rw [hK]; rfl
        have Hcn := Lib.hid hcn
        have Hkn := Lib.hid hkn
        have Hr := Lib.hid hr
        clear hcn hkn hr hK hlen
        go_wp2_with fail
        go_roundw
        case rel => exact ⟨j + 1, by omega, by go_num, by rw [Hcn.out], ⟨Hr.out.bel, Hr.out.mask, by rw [Hkn.out]; exact Hr.out.pts, Hr.out.fz, lg⟩⟩
        case measure => simp [intOf]; omega
      · rw [hK] at cm
        simp only [if_true] at cm
        have hnn := Hn.out
        have hjp : j < ps.length := by omega
        have hgt : (radL ps ((kept K j).map (ptAt ps))).length = n := by rw [radL_length _ _ (by rw [List.length_map]; omega)]; exact hnn
        obtain ⟨e0, e1⟩ := hr.pts j (by rw [hgt]; exact hlt)
        obtain ⟨k0', k1'⟩ := hr.pts (cnt K j) (by rw [hgt]; omega)
        rw [radL_get _ _ j (by rw [List.length_map]; omega) (by rw [hgt]; exact hlt) hjp] at e0 e1
        have hset := hr.pts.set (i := cnt K j) (by rw [hgt]; omega) (ps[j]'hjp).1 (ps[j]'hjp).2
        have hrs := radL_set ps ((kept K j).map (ptAt ps)) (ps[j]'hjp) (by rw [List.length_map]; omega)
        rw [List.length_map, hlen] at hrs
        rw [show ((ps[j]'hjp).1, (ps[j]'hjp).2) = ps[j]'hjp from rfl, hrs] at hset
        have hpt : ptAt ps j = ps[j]'hjp := getD_in _ _ hjp
        obtain ⟨hkn, hcn⟩ := kept_upto (Nat.le_refl j) hK (fun k a b => by omega)
        have hmap : (kept K (j + 1)).map (ptAt ps) = (kept K j).map (ptAt ps) ++ [ps[j]'hjp] := by rw [hkn, List.map_append, ← hpt]; rfl
        rw [← hmap] at hset
        obtain ⟨⟨qx, qy⟩, hq'⟩ : ∃ q, ps[j]'hjp = q := ⟨_, rfl⟩
        obtain ⟨⟨ux, uy⟩, hq2⟩ : ∃ q, (radL ps ((kept K j).map (ptAt ps)))[cnt K j]'(by rw [hgt]; omega) = q := ⟨_, rfl⟩
        rw [hq'] at e0 e1 hset
        rw [hq2] at k0' k1'
        simp only [Nat.zero_add] at e0 e1 k0' k1' hset
        have hgM : g ≠ w.heap.size := by omega
        have hm2 := (hr.mask.other hgM (cnt K j * 2) (.float .f64 qx)).other hgM (cnt K j * 2 + 1) (.float .f64 qy)
        have zb := hr.fz (cnt K j * 2)
        have zb1 := hr.fz (cnt K j * 2 + 1)
        have Hset := Lib.hid hset
        have Hr := Lib.hid hr
        have Hcn := Lib.hid hcn
        have Hm2 := Lib.hid hm2
        have j0 : (cnt K j : Int) < (n : Int) := by omega
        have j1 : (j : Int) < (n : Int) := by omega
        obtain ⟨cc, hcc⟩ : ∃ cc, cnt K j = cc := ⟨_, rfl⟩
        have Hcc := Lib.hid hcc
        rw [hcc] at k0' k1' Hset zb zb1 j0 hct Hm2 ⊢
        clear hset hr hcn hkn hmap hpt hrs hq' hq2 hgt hnn hlen hcc hm2 hK
        go_wp2_with fail
        go_roundw
        case rel => exact ⟨j + 1, by omega, by go_num, by rw [Hcn.out, Hcc.out]; go_num, ⟨below_set2 Hr.out.bel _ _ _ _, Hm2.out, Hset.out, fun j => by simpa using Hr.out.fz j, by simpa using lg⟩⟩
        case measure => simp [intOf]; omega
    · obtain rfl : j = n := by omega
      have hp := hr.pts
      unfold radL at hp
      have Hp := Lib.hid (PtsAt.prefix hp)
      have Hr := Lib.hid hr
      have Hlen := Lib.hid hlen
      have j0 : (cnt K j : Int) ≤ (cap : Int) := by omega
      clear hp hr hlen
      go_wp2_with fail
      go_ret2
      have hnn := Hn.out
      exact ⟨_, ⟨K, by rw [hnn]; exact Hres.out, rfl⟩, _, by rw [List.length_map, hnn, Hlen.out]; rfl, Hr.out.bel, Hr.out.bel.size, by rw [hnn]; exact Hp.out⟩
theorem peuckerNew_c (t : Nat) (w : World) : Calls Try.prog 25 #[.float .f64 t] w (fun e w' => e = .returned (.pointer (some ⟨w.heap.size, 0, none⟩)) ∧ w' = w.alloc (.cells #[.float .f64 t] 63)) := by
  go_enter Try.func25, Try.ntmps25
  go_wp2_with fail
  go_ret
  exact ⟨rfl, rfl⟩
theorem dpOut_length {ps out : List (Nat × Nat)} {near : Nat → Nat → Nat → Prop} (h : DpOut ps near out) : out.length ≤ ps.length := by
  obtain ⟨L, _, rfl⟩ := h
  rw [List.length_map, kept_length]; exact cnt_le _ _
theorem dpOut_two {ps : List (Nat × Nat)} (near : Nat → Nat → Nat → Prop) (h : ps.length = 2) : DpOut ps near ps :=
  ⟨fun q => decide (q < ps.length), ⟨decide_eq_true (by omega), decide_eq_true (by omega), fun m hm => by have := of_decide_eq_true hm; omega, fun a b h1 h2 _ _ _ k h3 h4 => by omega⟩, by
    rw [map_kept_all ps ps.length (Nat.le_refl _), List.take_of_length_le (Nat.le_refl _)]⟩

set_option maxRecDepth 20000 in
set_option maxHeartbeats 1000000 in
theorem peucker_c (a : Option Addr) (cap t : Nat) (ps : List (Nat × Nat)) (X Y : Nat → Int) (D : Nat → Nat → Nat → Nat) (q : Nat → Nat → Nat → Rat) (T2 : Rat) (F : SegFun ps X Y D q) (ot : FOk .mul t t) (vt : IsV (fop .mul t t) T2) (hT : 0 ≤ T2) (hn : ps.length ≤ 1000) (h1 : 2 ≤ ps.length) (w : World) (hs : PtsIn w a ps) :
    Calls Try.prog 11 #[.slice a ps.length cap, .float .f64 t] w (RetP' w 34 (DpOut ps (fun a b k => q a b k ≤ T2))) := by
  have P1 := Lib.hid (fun w' (hk : Kp w w') => pointsOf_c a cap ps (by omega) w' (hs.kp hk))
  have HF := Lib.hid F
  have HV := Lib.hid vt
  clear F vt
  clear hs
  go_enter Try.func11, Try.ntmps11
  go_wp2_with (first | (go_at_call 25; (with_reducible refine (peuckerNew_c _ _).mono ?_); rintro e w1 ⟨rfl, rfl⟩) | (go_at_call 24; (with_reducible refine (P1.out _ (by repeat (first | (with_reducible exact Kp.refl _) | (with_reducible assumption) | (with_reducible apply Kp.ext) | (with_reducible apply Kp.alloc) | (with_reducible apply Kp.drew) | (with_reducible apply Kp.drewN) | (with_reducible refine Kp.setCell ?_ (by first | (dsimp only; omega) | (simp; omega) | (simp; done) | (simp [size_ext_eq]; omega)) _)))).mono ?_); rintro e w2 ⟨v, u, rfl, hu, hpn⟩))
  have c0 : (w.alloc (.cells #[.float .f64 t] 63)).cell? ⟨w.heap.size, 0, none⟩ = some (.float .f64 t) := by simp
  have k1 : Kp w (w.alloc (.cells #[.float .f64 t] 63)) := (by repeat (first | (with_reducible exact Kp.refl _) | (with_reducible assumption) | (with_reducible apply Kp.ext) | (with_reducible apply Kp.alloc) | (with_reducible apply Kp.drew) | (with_reducible apply Kp.drewN) | (with_reducible refine Kp.setCell ?_ (by first | (dsimp only; omega) | (simp; omega) | (simp; done) | (simp [size_ext_eq]; omega)) _)))
  have s1 : (w.alloc (.cells #[.float .f64 t] 63)).heap.size = w.heap.size + 1 := by simp
  generalize w.alloc (.cells #[.float .f64 t] 63) = W1 at *
  have k2 : Kp W1 w2 := by rw [hu]; exact (Kp.refl _).ext u
  rw [← hu]
  clear hu
  have c0' := Kp.cell k2 c0 (by omega)
  obtain ⟨g, cap', rfl, hg1, hg2, hcap, _, hq⟩ := hpn.form (by omega)
  have hfz := hpn.frozenAt
  have HL := Lib.hid (lsD_c w.heap.size g cap' (DpOut ps (fun a b k => q a b k ≤ T2)) ps hn (fun h => dpOut_two _ (by omega)) w2 hq (fun _ => dpSimplify_c w.heap.size g cap' t ps X Y D q T2 hn h1 hcap w2 (by omega) hg2 c0' hq hfz HF.out ot HV.out hT false))
  have HK := Lib.hid (k1.trans k2)
  have hW1 : w.heap.size ≤ W1.heap.size := by omega
  clear hpn hq hfz c0 c0' hcap s1 k1 k2
  go_wp2_with (go_at_call 26; (with_reducible refine (HL.out).mono ?_); rintro e w3 ⟨out, hP, rfl, hb, hz, hp⟩; have HP := Lib.hid hP; have HB := Lib.hid hb; have HP3 := Lib.hid hp; clear hP hb hp)
  have P3 := listOf_c (some ⟨g, 0, none⟩) cap' out (by have := dpOut_length HP.out; omega) w3 (.inr ⟨g, 0, rfl, by omega, HP3.out⟩)
  have HK3 := Lib.hid (show Kp w w3 from kp_trans' HK.out HB.out (Nat.le_trans hW1 hg1))
  clear HB HP3
  go_wp2_with (go_at_call 21; (with_reducible refine (P3).mono ?_); rintro e w4 ⟨v4, u4, rfl, hu4, hp4⟩; have HP4 := Lib.hid hp4; have HU4 := Lib.hid hu4; clear hp4 hu4)
  go_ret
  exact ⟨out, HP.out, RetO.mk rfl (by rw [HU4.out]; exact HK3.out.ext u4) (HP4.out.wide HK3.out.size)⟩
end Go.Proofs.Ytglopopdmkgooaa
