/-
  The box of any geometry; impl.Bound.
-/
import Derived.Test.YtciaeknfgdckbaaBoundK
import Derived.Test.YtciaeknfgdckbaaOrbEq4
namespace Go.Proofs.Ytciaeknfgdckbaa
open PubFl Go.RowKit

attribute [local go_sem] cell_ext frozen_ext ext_setCell cell_store size_ext_eq lt_p0 lt_p1 lt_p2 lt_p3 lt_p4 lt_p5 lt_p6 lt_p7 lt_p8 lt_p9 lt_p10 lt_p11 lt_p12 lt_p13 lt_p14 lt_p15 lt_p16 lt_p17 lt_p18 lt_p19 lt_p20 lt_p21 lt_p22 lt_p23 lt_p24 lt_p25 lt_p26 lt_p27 lt_p28 lt_p29 lt_p30 lt_p31 lt_p32 lt_q1 lt_q2 lt_q3 lt_q4 lt_q5 lt_q6 lt_q7 lt_q8 lt_q9 lt_q10 lt_q11 lt_q12 lt_q13 lt_q14 lt_q15 lt_q16 lt_q17 lt_q18 lt_q19 lt_q20 lt_q21 lt_q22 lt_q23 lt_q24 lt_q25 lt_q26 lt_q27 lt_q28 lt_q29 lt_q30 lt_q31 lt_q32 run_fop run_store_float
attribute [local go_sem high] cmp_eql cmp_neq cmp_lss cmp_leq cmp_gtr cmp_geq

theorem methBd_Point (x : Value) (w : World) : Sem.run Try.prog (method 220 46 x "Bound") w = .ok (80, x) w := by kernel_rfl
theorem entBd_Point (x : Value) (w : World) : Sem.run Try.prog (callFunc 80 #[x]) w = .ok (.enter 80 #[x]) w := by kernel_rfl
theorem methBd_LineString (x : Value) (w : World) : Sem.run Try.prog (method 220 59 x "Bound") w = .ok (88, x) w := by kernel_rfl
theorem entBd_LineString (x : Value) (w : World) : Sem.run Try.prog (callFunc 88 #[x]) w = .ok (.enter 88 #[x]) w := by kernel_rfl
theorem methBd_Polygon (x : Value) (w : World) : Sem.run Try.prog (method 220 61 x "Bound") w = .ok (97, x) w := by kernel_rfl
theorem entBd_Polygon (x : Value) (w : World) : Sem.run Try.prog (callFunc 97 #[x]) w = .ok (.enter 97 #[x]) w := by kernel_rfl
theorem methBd_MultiPoint (x : Value) (w : World) : Sem.run Try.prog (method 220 63 x "Bound") w = .ok (93, x) w := by kernel_rfl
theorem entBd_MultiPoint (x : Value) (w : World) : Sem.run Try.prog (callFunc 93 #[x]) w = .ok (.enter 93 #[x]) w := by kernel_rfl
theorem methBd_MultiLineString (x : Value) (w : World) : Sem.run Try.prog (method 220 65 x "Bound") w = .ok (105, x) w := by kernel_rfl
theorem entBd_MultiLineString (x : Value) (w : World) : Sem.run Try.prog (callFunc 105 #[x]) w = .ok (.enter 105 #[x]) w := by kernel_rfl
theorem methBd_MultiPolygon (x : Value) (w : World) : Sem.run Try.prog (method 220 67 x "Bound") w = .ok (116, x) w := by kernel_rfl
theorem entBd_MultiPolygon (x : Value) (w : World) : Sem.run Try.prog (callFunc 116 #[x]) w = .ok (.enter 116 #[x]) w := by kernel_rfl
theorem methBd_Collection (x : Value) (w : World) : Sem.run Try.prog (method 220 69 x "Bound") w = .ok (120, x) w := by kernel_rfl
theorem entBd_Collection (x : Value) (w : World) : Sem.run Try.prog (callFunc 120 #[x]) w = .ok (.enter 120 #[x]) w := by kernel_rfl

theorem PtsB.first {lo hi : Nat} {w : World} {v : Value} {ps : List (Nat × Nat)} (h : PtsB lo hi w v ps) (hf : FinPts ps) (hpos : 0 < ps.length) (hn : ps.length ≤ 300) : ∃ g cap, v = .slice (some ⟨g, 0, none⟩) ps.length cap ∧ ∀ w', Kp w w' → g < w'.heap.size ∧ PtsAt w' g 0 ps := by
  obtain ⟨g, cap, hv, _, _, h3, _, _, h6⟩ := h
  exact ⟨g, cap, hv, fun w' k => ⟨Nat.lt_of_lt_of_le h3 k.size, h6.kp h3 k⟩⟩
theorem getD0 {ps : List (Nat × Nat)} (h : 0 < ps.length) : ps[0]'h = ((ps.getD 0 (0, 0)).1, (ps.getD 0 (0, 0)).2) := by
  rw [List.getD_eq_getElem?_getD, List.getElem?_eq_getElem h]; rfl
theorem lsBoundB (lo hi : Nat) (v : Value) (ps : List (Nat × Nat)) (w : World) (h : PtsB lo hi w v ps) (hf : FinPts ps) (hpos : 0 < ps.length) (hn : ps.length ≤ 300) (w' : World) (k : Kp w w') : Calls Try.prog 88 #[v] w' (Ret w' (.agg #[.float .f64 (boxPts ps).ax, .float .f64 (boxPts ps).ay, .float .f64 (boxPts ps).bx, .float .f64 (boxPts ps).b_y])) := by
  obtain ⟨g, cap, rfl, hk⟩ := h.first hf hpos hn
  obtain ⟨h1, h2⟩ := hk w' k
  exact lsBound_c g 0 cap ps (by omega) hpos w' h1 h2 hf _ _ (getD0 hpos) _ rfl
theorem mpBoundB (lo hi : Nat) (v : Value) (ps : List (Nat × Nat)) (w : World) (h : PtsB lo hi w v ps) (hf : FinPts ps) (hpos : 0 < ps.length) (hn : ps.length ≤ 300) (w' : World) (k : Kp w w') : Calls Try.prog 93 #[v] w' (Ret w' (.agg #[.float .f64 (boxPts ps).ax, .float .f64 (boxPts ps).ay, .float .f64 (boxPts ps).bx, .float .f64 (boxPts ps).b_y])) := by
  obtain ⟨g, cap, rfl, hk⟩ := h.first hf hpos hn
  obtain ⟨h1, h2⟩ := hk w' k
  exact mpBound_c g 0 cap ps (by omega) hpos w' h1 h2 hf _ _ (getD0 hpos) _ rfl
theorem rgBoundB (lo hi : Nat) (v : Value) (ps : List (Nat × Nat)) (w : World) (h : PtsB lo hi w v ps) (hf : FinPts ps) (hpos : 0 < ps.length) (hn : ps.length ≤ 300) (w' : World) (k : Kp w w') : Calls Try.prog 101 #[v] w' (Ret w' (.agg #[.float .f64 (boxPts ps).ax, .float .f64 (boxPts ps).ay, .float .f64 (boxPts ps).bx, .float .f64 (boxPts ps).b_y])) := by
  obtain ⟨g, cap, rfl, hk⟩ := h.first hf hpos hn
  obtain ⟨h1, h2⟩ := hk w' k
  exact ringBound_c g 0 cap ps (by omega) hpos w' h1 h2 hf _ _ (getD0 hpos) _ rfl
theorem pgBoundB (lo hi : Nat) (v : Value) (ls : List (List (Nat × Nat))) (w : World) (h : ListsB ls lo hi w v) (hh : ∀ l ∈ ls, FinPts l ∧ 0 < l.length ∧ l.length ≤ 300) (h0 : 0 < ls.length) (hn : ls.length ≤ 40) (w' : World) (k : Kp w w') : Calls Try.prog 97 #[v] w' (Ret w' (.agg #[.float .f64 (boxPts (ls.getD 0 [])).ax, .float .f64 (boxPts (ls.getD 0 [])).ay, .float .f64 (boxPts (ls.getD 0 [])).bx, .float .f64 (boxPts (ls.getD 0 [])).b_y])) := by
  obtain ⟨g, cap, rfl, _, _, h3, _, _, h6⟩ := h
  obtain ⟨x, l, h, hc, hx, _, _, hh', _⟩ := h6 0 h0
  obtain ⟨f1, f2, f3⟩ := hh _ (getD_mem (z := []) h0)
  exact pgBound_c g cap ls.length h0 hn w' (Nat.lt_of_lt_of_le h3 k.size) _ x (Kp.cell k hc h3) (PtsB.slc hx) fun w'' k' => rgBoundB l h x _ w hx f1 f2 f3 w'' (k.trans k')
theorem geoBound_c : ∀ (d : Nat) (s : Sh) (lo hi : Nat) (v : Value) (w : World), GeoB d lo hi w v s → cntOk d s = true → Small d s → FinSh d s → fullB d s = true →
    ∃ t u F, v = .iface t u ∧ (∀ w, Sem.run Try.prog (method 220 t u "Bound") w = .ok (F, u) w) ∧ (∀ w, Sem.run Try.prog (callFunc F #[u]) w = .ok (.enter F #[u]) w) ∧ ∀ w', Kp w w' → Calls Try.prog F #[u] w' (Ret w' (.agg #[.float .f64 (boxSh d s).ax, .float .f64 (boxSh d s).ay, .float .f64 (boxSh d s).bx, .float .f64 (boxSh d s).b_y]))
  | 0, _, _, _, _, _, h, _, _, _, _ => h.elim
  | d + 1, s, lo, hi, v, w, hg, hok, hsm, hf, hfull => by
    obtain ⟨f1, f2, f3⟩ := full_parts hfull
    have hpa := (cntOk_parts hok).2.1
    obtain ⟨_, _, n1, n2⟩ := shHead_spec (cntOk_parts hok).1
    obtain ⟨sl, sp⟩ := hsm
    have hL : ∀ l ∈ s.lists, FinPts l ∧ 0 < l.length ∧ l.length ≤ 300 := fun l hl => by
      obtain ⟨i, hi, rfl⟩ := List.getElem_of_mem hl
      have := f1 i hi
      rw [getD_ls _ _ hi] at this
      exact ⟨hf.1 _ hl, this, sl _ hl⟩
    rcases hg with ⟨hk, x, y, h1, h2, rfl⟩ | ⟨hk, ps, u, h1, h2, rfl, h3⟩ | ⟨hk, u, h1, rfl, h2⟩ | ⟨hk, ps, u, h1, h2, rfl, h3⟩ | ⟨hk, u, h1, rfl, h2⟩ | ⟨hk, u, h1, rfl, h2⟩ | ⟨hk, u, h1, rfl, h2⟩
    · obtain ⟨⟨p, hx⟩, q, hy⟩ := (hL [(x, y)] (by rw [h1]; simp)).1 (x, y) (by simp)
      have e : boxSh (d + 1) s = ⟨x, y, x, y⟩ := by
        unfold boxSh
        rw [if_neg (by omega), if_pos h2, h1]
        exact boxPts_one hx hy
      rw [e]
      exact ⟨_, _, _, rfl, methBd_Point _, entBd_Point _, fun w' _ => ptBound_c x y w'⟩
    · obtain ⟨q1, q2, q3⟩ := hL ps (by rw [h1]; simp)
      have e : boxSh (d + 1) s = boxPts ps := by
        unfold boxSh
        rw [if_neg (by omega), if_pos h2, h1]
        rfl
      rw [e]
      exact ⟨_, _, _, rfl, methBd_LineString _, entBd_LineString _, fun w' k => lsBoundB lo hi u ps w h3 q1 q2 q3 w' k⟩
    · have e : boxSh (d + 1) s = boxPts (s.lists.getD 0 []) := by
        unfold boxSh
        rw [if_pos hk]
      rw [e]
      rw [h1] at f3
      exact ⟨_, _, _, rfl, methBd_Polygon _, entBd_Polygon _, fun w' k => pgBoundB lo hi u s.lists w h2 hL (by simpa using f3) n1 w' k⟩
    · obtain ⟨q1, q2, q3⟩ := hL ps (by rw [h1]; simp)
      have e : boxSh (d + 1) s = boxPts ps := by
        unfold boxSh
        rw [if_neg (by omega), if_pos h2, h1]
        rfl
      rw [e]
      exact ⟨_, _, _, rfl, methBd_MultiPoint _, entBd_MultiPoint _, fun w' k => mpBoundB lo hi u ps w h3 q1 q2 q3 w' k⟩
    · have e : boxSh (d + 1) s = boxTo (fun i => boxPts (s.lists.getD i [])) (s.lists.length - 1) := by
        unfold boxSh
        rw [if_neg (by omega), if_pos h1]
      rw [e]
      rw [h1] at f3
      refine ⟨_, _, _, rfl, methBd_MultiLineString _, entBd_MultiLineString _, fun w' k => ?_⟩
      obtain ⟨g, cap, rfl, _, _, h3, _, _, h6⟩ := h2
      refine rowMultiLineString_c g cap s.lists.length (by simpa using f3) n1 w' (Nat.lt_of_lt_of_le h3 k.size) _ (fun i hi => ?_) fun k' hk' => boxTo_un (p := fun i => s.lists.getD i []) fun i hi => ?_
      · obtain ⟨x, l, h, hc, hx, _⟩ := h6 i hi
        obtain ⟨q1, q2, q3⟩ := hL _ (getD_mem (z := []) hi)
        exact ⟨x, Kp.cell k hc h3, PtsB.slc hx, fun w'' k' => lsBoundB l h x _ w hx q1 q2 q3 w'' (k.trans k')⟩
      · obtain ⟨q1, q2, q3⟩ := hL _ (getD_mem (z := []) (show i < s.lists.length by omega))
        exact boxPts_around q1 q2
    · have hn : s.parts ≠ [] := fun e => by rw [h1, e] at f3; simp at f3
      have hn0 : 0 < s.parts.length := by rw [h1] at f3; simpa using f3
      have he : boxSh (d + 1) s = boxTo (fun i => boxSh d (s.parts.getD i dsh)) (s.parts.length - 1) := by
        conv => lhs; unfold boxSh
        rw [if_neg (by omega), if_neg hn]
      rw [he]
      clear he
      refine ⟨_, _, _, rfl, methBd_MultiPolygon _, entBd_MultiPolygon _, fun w' k => ?_⟩
      obtain ⟨g, cap, rfl, _, _, h3, _, _, h6⟩ := h2
      refine rowMultiPolygon_c g cap s.parts.length hn0 n2 w' (Nat.lt_of_lt_of_le h3 k.size) _ (fun i hi => ?_) fun k' hk' => boxTo_un (p := fun i => ptsSh true d (s.parts.getD i dsh)) fun i hi => ?_
      · obtain ⟨x, l, h, hc, hx, _⟩ := h6 i hi
        have hm := getD_mem (z := dsh) hi
        obtain ⟨e, rfl, k3, kp, l40⟩ := poly_part hk (hpa _ hm)
        have hfp := hf.2 _ hm
        have hup := f2 i hi
        obtain ⟨u1, _, u3⟩ := full_parts hup
        rw [kp] at u3
        have eb : boxSh (e + 1) (s.parts.getD i dsh) = boxPts ((s.parts.getD i dsh).lists.getD 0 []) := by
          unfold boxSh
          rw [if_pos k3]
        simp only [eb]
        refine ⟨x, Kp.cell k hc h3, RowB.slc hx, fun w'' k' => pgBoundB l h x _ w hx (fun l hl => ?_) (by simpa using u3) l40 w'' (k.trans k')⟩
        obtain ⟨j, hj, rfl⟩ := List.getElem_of_mem hl
        have := u1 j hj
        rw [getD_ls _ _ hj] at this
        exact ⟨hfp.1 _ hl, this, (sp _ hm).1 _ hl⟩
      · have hm := getD_mem (z := dsh) (show i < s.parts.length by omega)
        exact box_around d _ (hpa _ hm).1 (hf.2 _ hm) (f2 i (by omega))
    · have hn : s.parts ≠ [] := fun e => by rw [h1, e] at f3; simp at f3
      have hn0 : 0 < s.parts.length := by rw [h1] at f3; simpa using f3
      have he : boxSh (d + 1) s = boxTo (fun i => boxSh d (s.parts.getD i dsh)) (s.parts.length - 1) := by
        conv => lhs; unfold boxSh
        rw [if_neg (by omega), if_neg hn]
      rw [he]
      clear he
      refine ⟨_, _, _, rfl, methBd_Collection _, entBd_Collection _, fun w' k => ?_⟩
      obtain ⟨g, cap, rfl, _, _, h3, _, _, h6⟩ := h2
      refine rowCol_c g cap s.parts.length hn0 n2 w' (Nat.lt_of_lt_of_le h3 k.size) _ (fun i hi => ?_) fun k' hk' => boxTo_un (p := fun i => ptsSh true d (s.parts.getD i dsh)) fun i hi => ?_
      · obtain ⟨x, l, h, hc, hx, _⟩ := h6 i hi
        have hm := getD_mem (z := dsh) hi
        obtain ⟨t, u, F, rfl, hM, hE, hC⟩ := geoBound_c d _ l h x w hx (hpa _ hm).1 (sp _ hm) (hf.2 _ hm) (f2 i hi)
        exact ⟨t, u, F, Kp.cell k hc h3, hM, hE, fun w'' k' => hC w'' (k.trans k')⟩
      · have hm := getD_mem (z := dsh) (show i < s.parts.length by omega)
        exact box_around d _ (hpa _ hm).1 (hf.2 _ hm) (f2 i (by omega))

set_option maxRecDepth 20000 in
set_option maxHeartbeats 2000000 in
theorem boundI_c (s : Sh) (lv pv : Value) (w : World) (hs : ShIn 4 w lv pv s) (ok : isShB s = true) (hf : FinSh 4 s) (hfull : fullB 4 s = true) :
    Calls Try.prog 10 #[.agg #[.int .i64 s.kind, lv, pv]] w (Ret w (.tuple #[.agg #[.float .f64 (boxSh 4 s).ax, .float .f64 (boxSh 4 s).ay], .agg #[.float .f64 (boxSh 4 s).bx, .float .f64 (boxSh 4 s).b_y]])) := by
  have hA := fun w' (hk : Kp w w') => geometry_c 4 s lv pv w' (hs.kp hk) (isSh_facts ok).1 (isSh_facts ok).2
  have HB := Lib.hid (fun lo hi v w' (h : GeoB 4 lo hi w' v s) => geoBound_c 4 s lo hi v w' h (isSh_facts ok).1 (isSh_facts ok).2 hf hfull)
  have HA := Lib.hid hA
  obtain ⟨⟨p1, n1, c1, rfl⟩, p2, n2, c2, rfl⟩ := hs.form
  generalize boxSh 4 s = B at *
  obtain ⟨q1, q2, q3, q4⟩ := B
  dsimp only at HB ⊢
  clear hA hs ok hf hfull
  go_enter Try.func10, Try.ntmps10
  go_wp2_with (first | (go_at_call 22; (with_reducible refine (HA.out _ (by repeat (first | (with_reducible exact Kp.refl _) | (with_reducible assumption) | (with_reducible apply Kp.ext) | (with_reducible apply Kp.alloc) | (with_reducible apply Kp.drew) | (with_reducible apply Kp.drewN) | (with_reducible refine Kp.setCell ?_ (by first | (dsimp only; omega) | (simp; omega) | (simp; done) | (simp [size_ext_eq]; omega)) _)))).mono ?_); rintro e w1 ⟨v, u, rfl, rfl, hga⟩; obtain ⟨t, x, F, rfl, hM, hE, hC⟩ := HB.out _ _ _ _ hga; have HC := Lib.hid hC; clear hga hC) | ((with_reducible refine (HC.out _ (by repeat (first | (with_reducible exact Kp.refl _) | (with_reducible assumption) | (with_reducible apply Kp.ext) | (with_reducible apply Kp.alloc) | (with_reducible apply Kp.drew) | (with_reducible apply Kp.drewN) | (with_reducible refine Kp.setCell ?_ (by first | (dsimp only; omega) | (simp; omega) | (simp; done) | (simp [size_ext_eq]; omega)) _)))).mono ?_); rintro e w2 ⟨rfl, u2, rfl⟩))
  go_region
  all_goals go_wp2_with fail
  all_goals exact bodyPost_ret (v := .tuple #[.agg #[.float .f64 q1, .float .f64 q2], .agg #[.float .f64 q3, .float .f64 q4]]) (by simp [results, Try.results10, go_sem]) rfl (Ret.mk rfl (by repeat (first | (with_reducible exact Kp.refl _) | (with_reducible assumption) | (with_reducible apply Kp.ext) | (with_reducible apply Kp.alloc) | (with_reducible apply Kp.drew) | (with_reducible apply Kp.drewN) | (with_reducible refine Kp.setCell ?_ (by first | (dsimp only; omega) | (simp; omega) | (simp; done) | (simp [size_ext_eq]; omega)) _))))
end Go.Proofs.Ytciaeknfgdckbaa
