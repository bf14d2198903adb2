/-
  laws.plain, impl.Bound of it, laws.shapes.
-/
import Derived.Test.YtohidpmkoehmcaaGreatSame
import Derived.Test.YtohidpmkoehmcaaGreatBnd
import Derived.Deep.DrawnRows
namespace Go.Proofs.YtohidpmkoehmcaaGreat
open PubFl Go.RowKit

attribute [local go_sem] cell_ext frozen_ext ext_setCell cell_store size_ext_eq lt_p0 lt_p1 lt_p2 lt_p3 lt_p4 lt_p5 lt_p6 lt_p7 lt_p8 lt_p9 lt_p10 lt_p11 lt_p12 lt_p13 lt_p14 lt_p15 lt_p16 lt_p17 lt_p18 lt_p19 lt_p20 lt_p21 lt_p22 lt_p23 lt_p24 lt_p25 lt_p26 lt_p27 lt_p28 lt_p29 lt_p30 lt_p31 lt_p32 lt_q1 lt_q2 lt_q3 lt_q4 lt_q5 lt_q6 lt_q7 lt_q8 lt_q9 lt_q10 lt_q11 lt_q12 lt_q13 lt_q14 lt_q15 lt_q16 lt_q17 lt_q18 lt_q19 lt_q20 lt_q21 lt_q22 lt_q23 lt_q24 lt_q25 lt_q26 lt_q27 lt_q28 lt_q29 lt_q30 lt_q31 lt_q32 run_fop run_store_float
attribute [local go_sem high] cmp_eql cmp_neq cmp_lss cmp_leq cmp_gtr cmp_geq

def plainPts : List (Nat × Nat) := [(4607182418800017408, 4611686018427387904), (4613937818241073152, 4616189618054758400)]
def plainSh : Sh := .mk 2 [plainPts] []
theorem plain_ok : isShB plainSh = true := by kernel_rfl
theorem plain_eq : eqSh 4 plainSh plainSh = true := by kernel_rfl
theorem plain_bits : Bits plainPts := by
  intro i hi
  rcases (show i = 0 ∨ i = 1 by simp [plainPts] at hi; omega) with rfl | rfl
  · exact ⟨(show (4607182418800017408 : Nat) < 2 ^ 64 by decide), (show (4611686018427387904 : Nat) < 2 ^ 64 by decide)⟩
  · exact ⟨(show (4613937818241073152 : Nat) < 2 ^ 64 by decide), (show (4616189618054758400 : Nat) < 2 ^ 64 by decide)⟩
theorem plain_fin : FinPts plainPts := by
  intro p hp
  unfold plainPts at hp
  rcases List.mem_cons.1 hp with rfl | hp
  · exact ⟨fin_isV (by decide) (by kernel_rfl), fin_isV (by decide) (by kernel_rfl)⟩
  · obtain rfl := List.mem_singleton.1 hp
    exact ⟨fin_isV (by decide) (by kernel_rfl), fin_isV (by decide) (by kernel_rfl)⟩
theorem plain_box : boundTo 4607182418800017408 4611686018427387904 plainPts plainPts.length = ⟨4607182418800017408, 4611686018427387904, 4613937818241073152, 4616189618054758400⟩ := by kernel_rfl
theorem plain_geo {lo hi : Nat} {w : World} {v : Value} (h : GeoB 4 lo hi w v plainSh) : ∃ u, v = .iface 59 u ∧ PtsB lo hi w u plainPts := by
  have k2 : plainSh.kind = 2 := rfl
  rcases h with ⟨hk, _⟩ | ⟨hk, ps, u, h1, h2, h3, h4⟩ | ⟨hk, _⟩ | ⟨hk, _⟩ | ⟨hk, _⟩ | ⟨hk, _⟩ | ⟨hk, _⟩
  · omega
  · have e : plainSh.lists = [plainPts] := rfl
    rw [e] at h1
    obtain rfl : plainPts = ps := by simpa using h1
    exact ⟨u, h3, h4⟩
  all_goals omega
@[go_sem] theorem methB_LineString (x : Value) (w : World) : Sem.run Tryz.prog (method 215 59 x "Bound") w = .ok (69, x) w := by kernel_rfl
def RetS (w : World) (e : Ending) (w' : World) : Prop := ∃ lv pv u, e = .returned (.agg #[.int .i64 2, lv, pv]) ∧ w' = ext w u ∧ ShIn 4 w' lv pv plainSh

set_option maxHeartbeats 1000000 in
theorem plain_c (w : World) : Calls Tryz.prog 15 #[] w (RetS w) := by
  go_enter Tryz.func15, Tryz.ntmps15
  go_wp2_with fail
  refine bodyPost_ret (v := .agg #[.int .i64 2, .slice (some ⟨w.heap.size + 1 + 1, 0, none⟩) 1 1, .slice none 0 0]) (by simp [results, Tryz.results15, go_sem]) rfl ⟨_, _, _, rfl, ext_of ?_, ?_⟩
  · show Kp w _
    exact (by repeat (first | (with_reducible exact Kp.refl _) | (with_reducible assumption) | (with_reducible apply Kp.ext) | (with_reducible apply Kp.alloc) | (with_reducible apply Kp.drew) | (with_reducible apply Kp.drewN) | (with_reducible refine Kp.setCell ?_ (by first | (dsimp only; omega) | (simp; omega) | (simp; done) | (simp [size_ext_eq]; omega)) _)))
  refine ⟨⟨some ⟨w.heap.size + 1 + 1, 0, none⟩, 1, rfl, by decide, .inr ⟨_, _, rfl, by simp, fun i hi => ?_⟩⟩, none, 0, rfl, by decide, .inl rfl⟩
  obtain rfl : i = 0 := by simp [plainSh, Sh.lists] at hi; exact hi
  refine ⟨.slice (some ⟨w.heap.size + 1, 0, none⟩) 2 2, by simp [go_sem], some ⟨w.heap.size + 1, 0, none⟩, 2, rfl, (show plainPts.length ≤ big by decide), .inr ⟨_, _, rfl, by simp, fun i hi => ?_⟩, plain_bits⟩
  rcases (show i = 0 ∨ i = 1 by simp [plainSh, Sh.lists, plainPts] at hi; omega) with rfl | rfl
  · exact ⟨by simp [go_sem]; rfl, by simp [go_sem]; rfl⟩
  · exact ⟨by simp [go_sem]; rfl, by simp [go_sem]; rfl⟩

set_option maxRecDepth 20000 in
set_option maxHeartbeats 2000000 in
theorem boundPlain_c (lv pv : Value) (w : World) (hs : ShIn 4 w lv pv plainSh) : Calls Tryz.prog 14 #[.agg #[.int .i64 2, lv, pv]] w
    (Ret w (.tuple #[.agg #[.float .f64 4607182418800017408, .float .f64 4611686018427387904], .agg #[.float .f64 4613937818241073152, .float .f64 4616189618054758400]])) := by
  have hA : ∀ w', Kp w w' → Calls Tryz.prog 17 #[.agg #[.int .i64 2, lv, pv]] w' _ := fun w' hk => geometry_c 4 plainSh lv pv w' (hs.kp hk) (isSh_facts plain_ok).1 (isSh_facts plain_ok).2
  have HA := Lib.hid hA
  obtain ⟨⟨p1, n1, c1, rfl⟩, p2, n2, c2, rfl⟩ := hs.form
  clear hA hs
  have HC := Lib.hid (fun (g cap : Nat) (w0 w' : World) (h3 : g < w0.heap.size) (h6 : PtsAt w0 g 0 plainPts) (k : Kp w0 w') => lsBound_c g 0 cap plainPts (by decide) (by decide) w' (Nat.lt_of_lt_of_le h3 k.size) (h6.kp h3 k) plain_fin _ _ rfl _ plain_box)
  go_enter Tryz.func14, Tryz.ntmps14
  go_wp2_with (first | (go_at_call 17; (with_reducible refine (HA.out _ (by repeat (first | (with_reducible exact Kp.refl _) | (with_reducible assumption) | (with_reducible apply Kp.ext) | (with_reducible apply Kp.alloc) | (with_reducible apply Kp.drew) | (with_reducible apply Kp.drewN) | (with_reducible refine Kp.setCell ?_ (by first | (dsimp only; omega) | (simp; omega) | (simp; done) | (simp [size_ext_eq]; omega)) _)))).mono ?_); rintro e w1 ⟨v, u, rfl, rfl, hga⟩; obtain ⟨x, rfl, g, cap, rfl, _, _, h3, _, _, h6⟩ := plain_geo hga; have Hg := Lib.hid (And.intro h3 h6); clear hga h3 h6) | (go_at_call 69; (first | (with_reducible refine (Ret.at_ext (HC.out _ _ _ _ Hg.out.1 Hg.out.2 (by repeat (first | (with_reducible exact Kp.refl _) | (with_reducible assumption) | (with_reducible apply Kp.ext) | (with_reducible apply Kp.alloc) | (with_reducible apply Kp.drew) | (with_reducible apply Kp.drewN) | (with_reducible refine Kp.setCell ?_ (by first | (dsimp only; omega) | (simp; omega) | (simp; done) | (simp [size_ext_eq]; omega)) _))))).mono ?_) | (with_reducible refine (HC.out _ _ _ _ Hg.out.1 Hg.out.2 (by repeat (first | (with_reducible exact Kp.refl _) | (with_reducible assumption) | (with_reducible apply Kp.ext) | (with_reducible apply Kp.alloc) | (with_reducible apply Kp.drew) | (with_reducible apply Kp.drewN) | (with_reducible refine Kp.setCell ?_ (by first | (dsimp only; omega) | (simp; omega) | (simp; done) | (simp [size_ext_eq]; omega)) _)))).mono ?_)); rintro e w' ⟨rfl, u, rfl⟩))
  go_region
  all_goals go_wp2_with fail
  all_goals exact bodyPost_ret (v := .tuple #[.agg #[.float .f64 4607182418800017408, .float .f64 4611686018427387904], .agg #[.float .f64 4613937818241073152, .float .f64 4616189618054758400]]) (by simp [results, Tryz.results14, go_sem]) rfl (Ret.mk rfl (by repeat (first | (with_reducible exact Kp.refl _) | (with_reducible assumption) | (with_reducible apply Kp.ext) | (with_reducible apply Kp.alloc) | (with_reducible apply Kp.drew) | (with_reducible apply Kp.drewN) | (with_reducible refine Kp.setCell ?_ (by first | (dsimp only; omega) | (simp; omega) | (simp; done) | (simp [size_ext_eq]; omega)) _))))

theorem ShIn.at {w w' : World} {d : Nat} {lv pv : Value} {s : Sh} (h : ShIn d w lv pv s) (k : Kp w w') : ShIn d w' lv pv s := ShIn.kp k h
theorem plainSame_c (lv pv lv' pv' : Value) (w : World) (ha : ShIn 4 w lv pv plainSh) (hb : ShIn 4 w lv' pv' plainSh) : Calls Tryz.prog 16 #[.agg #[.int .i64 2, lv, pv], .agg #[.int .i64 2, lv', pv']] w (Ret w (.bool true)) := by
  have h := same_c plainSh plainSh lv pv lv' pv' w ha hb plain_ok plain_ok
  rw [plain_eq] at h
  exact h
set_option maxRecDepth 20000 in
set_option maxHeartbeats 2000000 in
theorem shapes_c (w : World) : Calls Tryz.prog 6 #[] w (Ret w (.bool true)) := by
  have h1 : eqF 4613937818241073152 4613937818241073152 = true := by kernel_rfl
  have h2 : eqF 4616189618054758400 4616189618054758400 = true := by kernel_rfl
  have h3 : ∀ (a b : Nat) (w : World), (Op.equalIn 9999 29 (.float .f64 a) (.float .f64 b)).run Tryz.prog w = .ok (eqF a b) w := fun a b w => run_equalIn_float w 9998 _ .f64 a b rfl
  go_enter Tryz.func6, Tryz.ntmps6
  go_wp2_with (first | (go_at_call 15; (with_reducible refine (plain_c _).mono ?_); rintro e w1 ⟨lv, pv, u, rfl, rfl, hsh⟩) | (go_at_call 14; (first | (with_reducible refine (Ret.at_ext (boundPlain_c _ _ _ (ShIn.at (by assumption) (by repeat (first | (with_reducible exact Kp.refl _) | (with_reducible assumption) | (with_reducible apply Kp.ext) | (with_reducible apply Kp.alloc) | (with_reducible apply Kp.drew) | (with_reducible apply Kp.drewN) | (with_reducible refine Kp.setCell ?_ (by first | (dsimp only; omega) | (simp; omega) | (simp; done) | (simp [size_ext_eq]; omega)) _)))))).mono ?_) | (with_reducible refine (boundPlain_c _ _ _ (ShIn.at (by assumption) (by repeat (first | (with_reducible exact Kp.refl _) | (with_reducible assumption) | (with_reducible apply Kp.ext) | (with_reducible apply Kp.alloc) | (with_reducible apply Kp.drew) | (with_reducible apply Kp.drewN) | (with_reducible refine Kp.setCell ?_ (by first | (dsimp only; omega) | (simp; omega) | (simp; done) | (simp [size_ext_eq]; omega)) _))))).mono ?_)); rintro e w' ⟨rfl, u, rfl⟩) | (go_at_call 16; (first | (with_reducible refine (Ret.at_ext (plainSame_c _ _ _ _ _ (ShIn.at (by assumption) (by repeat (first | (with_reducible exact Kp.refl _) | (with_reducible assumption) | (with_reducible apply Kp.ext) | (with_reducible apply Kp.alloc) | (with_reducible apply Kp.drew) | (with_reducible apply Kp.drewN) | (with_reducible refine Kp.setCell ?_ (by first | (dsimp only; omega) | (simp; omega) | (simp; done) | (simp [size_ext_eq]; omega)) _)))) (ShIn.at (by assumption) (by repeat (first | (with_reducible exact Kp.refl _) | (with_reducible assumption) | (with_reducible apply Kp.ext) | (with_reducible apply Kp.alloc) | (with_reducible apply Kp.drew) | (with_reducible apply Kp.drewN) | (with_reducible refine Kp.setCell ?_ (by first | (dsimp only; omega) | (simp; omega) | (simp; done) | (simp [size_ext_eq]; omega)) _)))))).mono ?_) | (with_reducible refine (plainSame_c _ _ _ _ _ (ShIn.at (by assumption) (by repeat (first | (with_reducible exact Kp.refl _) | (with_reducible assumption) | (with_reducible apply Kp.ext) | (with_reducible apply Kp.alloc) | (with_reducible apply Kp.drew) | (with_reducible apply Kp.drewN) | (with_reducible refine Kp.setCell ?_ (by first | (dsimp only; omega) | (simp; omega) | (simp; done) | (simp [size_ext_eq]; omega)) _)))) (ShIn.at (by assumption) (by repeat (first | (with_reducible exact Kp.refl _) | (with_reducible assumption) | (with_reducible apply Kp.ext) | (with_reducible apply Kp.alloc) | (with_reducible apply Kp.drew) | (with_reducible apply Kp.drewN) | (with_reducible refine Kp.setCell ?_ (by first | (dsimp only; omega) | (simp; omega) | (simp; done) | (simp [size_ext_eq]; omega)) _))))).mono ?_)); rintro e w' ⟨rfl, u, rfl⟩))
  go_ret
  exact Ret.mk rfl (by repeat (first | (with_reducible exact Kp.refl _) | (with_reducible assumption) | (with_reducible apply Kp.ext) | (with_reducible apply Kp.alloc) | (with_reducible apply Kp.drew) | (with_reducible apply Kp.drewN) | (with_reducible refine Kp.setCell ?_ (by first | (dsimp only; omega) | (simp; omega) | (simp; done) | (simp [size_ext_eq]; omega)) _)))
end Go.Proofs.YtohidpmkoehmcaaGreat
