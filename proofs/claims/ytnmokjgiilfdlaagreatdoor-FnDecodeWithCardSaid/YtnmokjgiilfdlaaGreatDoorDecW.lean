/-
  Unmarshal of the extended form; ewkb.Unmarshal; impl.DecodeWith.
-/
import Derived.Test.YtnmokjgiilfdlaaGreatDoorMRdB
set_option linter.all false
namespace Go.Proofs.YtnmokjgiilfdlaaGreatDoor
open PubFl Go.RowKit

attribute [local go_sem] cell_ext frozen_ext ext_setCell cell_store size_ext_eq lt_p0 lt_p1 lt_p2 lt_p3 lt_p4 lt_p5 lt_p6 lt_p7 lt_p8 lt_p9 lt_p10 lt_p11 lt_p12 lt_p13 lt_p14 lt_p15 lt_p16 lt_p17 lt_p18 lt_p19 lt_p20 lt_p21 lt_p22 lt_p23 lt_p24 lt_p25 lt_p26 lt_p27 lt_p28 lt_p29 lt_p30 lt_p31 lt_p32 lt_q1 lt_q2 lt_q3 lt_q4 lt_q5 lt_q6 lt_q7 lt_q8 lt_q9 lt_q10 lt_q11 lt_q12 lt_q13 lt_q14 lt_q15 lt_q16 lt_q17 lt_q18 lt_q19 lt_q20 lt_q21 lt_q22 lt_q23 lt_q24 lt_q25 lt_q26 lt_q27 lt_q28 lt_q29 lt_q30 lt_q31 lt_q32 run_fop run_store_float
attribute [local go_sem high] cmp_eql cmp_neq cmp_lss cmp_leq cmp_gtr cmp_geq

theorem ubotS_at (k s : Nat) (hk : k < 16) (hs : s < 4294967296) (hs0 : s ≠ 0) (big : Bool) (r2 : List Nat) (g off n c : Nat) (hnl : n = (headB k s big ++ r2).length) (h10 : 10 ≤ n) (hnc : n ≤ c) (w : World) (hg : g < w.heap.size) (hb : BytesAt w g off (headB k s big ++ r2)) :
    Calls Tryz.prog 74 #[.slice (some ⟨g, off, none⟩) n c] w (Ret w (.tuple #[.int .i64 (ordI big), .int .u32 (k : Int), .int .i64 (s : Int), .slice (some ⟨g, off + 9, none⟩) (n - 9) (c - 9), .nilIface])) ∧ BytesO w (some ⟨g, off + 9, none⟩) r2 ∧ n - 9 = r2.length := by
  have hh := hb.front
  have hl : (headB k s big).length = 9 := by rw [headB_length, if_neg hs0]
  have hbk := hb.back
  rw [hl] at hbk
  rw [headB_cons, if_neg hs0] at hh
  have h0 := hh.front
  have h1 := hh.back
  have h2 := h1.front
  have h3 := h1.back
  rw [num32_length] at h3
  refine ⟨ubotS_c k hk s hs big g off n c h10 hnc w hg ?_ h2 ?_, .inr ⟨g, _, rfl, hg, hbk⟩, ?_⟩
  · have := h0.b0
    rw [this]
    cases big <;> rfl
  · have e : off + [if big then 0 else 1].length + 4 = off + 5 := by simp
    rw [e] at h3
    exact h3
  · rw [hnl, List.length_append, hl]; omega
theorem unW_c (d : Nat) (s : Sh) (hok : cntOk (d + 1) s = true) (hsm : Small (d + 1) s) (hbits : BitsSh (d + 1) s) (sys : Nat) (hsys : sys ≤ 999999) (big turns : Bool) (g off n c : Nat) (hnl : n = (formSh (d + 1) s sys big turns).length) (hnc : n ≤ c) (hm : n ≤ 1000000000000) (w : World) (hg : g < w.heap.size) (hb : BytesAt w g off (formSh (d + 1) s sys big turns)) (hG : Gls w) :
    Calls Tryz.prog 51 #[.slice (some ⟨g, off, none⟩) n c] w (RetSc true w (fun lo hi w v => GeoB (d + 1) lo hi w v s) .nilIface (sys : Int)) := by
  obtain ⟨kk, F, hkk, hk1, hk7, hF, hF4⟩ := form_split d s hok sys big turns
  have hP : PreB true (formSh (d + 1) s sys big turns) [] (formSh (d + 1) s sys big turns) := .inl ⟨rfl, by rw [List.append_nil]⟩
  have hu : ∃ (a2 : Option Addr) (n2 c2 : Nat), Calls Tryz.prog 74 #[.slice (some ⟨g, off, none⟩) n c] w (Ret w (.tuple #[.int .i64 (ordI big), .int .u32 (kk : Int), .int .i64 (sys : Int), .slice a2 n2 c2, .nilIface])) ∧ BytesO w a2 F ∧ n2 = F.length ∧ n2 ≤ c2 ∧ n2 ≤ 1000000000000 := by
    have hb' := hb
    have hn' := hnl
    rw [hF] at hb' hn'
    have hll := hn'
    rw [List.length_append, headB_length] at hll
    by_cases h0 : sys = 0
    · subst h0
      rw [if_pos rfl] at hll
      obtain ⟨q1, q2, q3⟩ := ubot_at kk (by omega) big F g off n c hn' (by omega) hnc w hg hb'
      exact ⟨_, _, _, q1, q2, q3, by omega, by omega⟩
    · rw [if_neg h0] at hll
      obtain ⟨q1, q2, q3⟩ := ubotS_at kk sys (by omega) (by omega) h0 big F g off n c hn' (by omega) hnc w hg hb'
      exact ⟨_, _, _, q1, q2, q3, by omega, by omega⟩
  obtain ⟨a2, n2, c2, hu, hB2, hn2, hc2, hm2⟩ := hu
  by_cases hK : s.kind = 7
  · obtain rfl : kk = 7 := by omega
    exact col_c true d s hok hsm hbits hK sys hsys (.inl rfl) big turns [] _ hP g off n c hnl hnc hm w hg hb hG _ _ hu
  · exact unBody_c true d s hok hsm hbits hK kk hkk sys big turns F [] hF F (.inl ⟨rfl, by rw [List.append_nil]⟩) _ a2 n2 c2 hn2 hc2 hm2 w hB2 hG sys hu

/-- what ewkb.Unmarshal hands back -/
def RetW2 (w : World) (G : Nat → Nat → World → Value → Prop) (s : Int) (e : Ending) (w' : World) : Prop :=
  ∃ v u, e = .returned (.tuple #[v, .int .i64 s, .nilIface]) ∧ w' = ext w u ∧ G w.heap.size w'.heap.size w' v
theorem ewkbUn_c (s : Int) (v : Value) (w : World) (G : Nat → Nat → World → Value → Prop) (h : Calls Tryz.prog 51 #[v] w (RetSc true w G .nilIface s)) : Calls Tryz.prog 41 #[v] w (RetW2 w G s) := by
  have H := Lib.hid h
  clear h
  go_enter Tryz.func41, Tryz.ntmps41
  go_wp2_with (go_at_call 51; (with_reducible refine (H.out).mono ?_); rintro e w' ⟨h1, _⟩; obtain ⟨v', u', rfl, rfl, hpb⟩ := h1 rfl; have Hpb := Lib.hid hpb; clear h1 hpb)
  refine bodyPost_ret (v := .tuple #[v', .int .i64 s, .nilIface]) (by simp [results, Tryz.results41, go_sem]) rfl ?_
  exact ⟨_, _, rfl, ext_of (show Kp w _ from (by repeat (first | (with_reducible exact Kp.refl _) | (with_reducible assumption) | (with_reducible apply Kp.ext) | (with_reducible apply Kp.alloc) | (with_reducible apply Kp.drew) | (with_reducible apply Kp.drewN) | (with_reducible refine Kp.setCell ?_ (by first | (dsimp only; omega) | (simp; omega) | (simp; done) | (simp [size_ext_eq]; omega)) _)))), Hpb.out⟩
/-- what DecodeWith hands back -/
def RetDW (d : Nat) (s : Sh) (sys : Int) (w : World) (e : Ending) (w' : World) : Prop :=
  ∃ lv pv u, e = .returned (.tuple #[.agg #[.int .i64 s.kind, lv, pv], .int .i64 sys, .bool true]) ∧ w' = ext w u ∧ ShB d w.heap.size w'.heap.size w' lv pv s
set_option maxRecDepth 20000 in
set_option maxHeartbeats 1000000 in
theorem decodeWith_c (d : Nat) (s : Sh) (sys : Int) (v : Value) (w : World)
    (h : ∀ w', Kp w w' → Calls Tryz.prog 41 #[v] w' (RetW2 w' (fun lo hi w v => GeoB d lo hi w v s) sys))
    (hs : ∀ lo hi v w', GeoB d lo hi w' v s → Calls Tryz.prog 33 #[v] w' (RetSh d s w')) :
    Calls Tryz.prog 22 #[v] w (RetDW d s sys w) := by
  have H := Lib.hid h
  have HS := Lib.hid hs
  clear h hs
  go_enter Tryz.func22, Tryz.ntmps22
  go_wp2_with (first | (go_at_call 41; (with_reducible refine (H.out _ (by repeat (first | (with_reducible exact Kp.refl _) | (with_reducible assumption) | (with_reducible apply Kp.ext) | (with_reducible apply Kp.alloc) | (with_reducible apply Kp.drew) | (with_reducible apply Kp.drewN) | (with_reducible refine Kp.setCell ?_ (by first | (dsimp only; omega) | (simp; omega) | (simp; done) | (simp [size_ext_eq]; omega)) _)))).mono ?_); rintro e w' ⟨v', u', rfl, rfl, hpb⟩; obtain ⟨tt, uu, rfl⟩ := GeoB.iface hpb; have Hpb := Lib.hid hpb; clear hpb) | (go_at_call 33; (with_reducible refine (HS.out _ _ _ _ Hpb.out).mono ?_); rintro e w' ⟨lv, pv, u2, rfl, rfl, hsh⟩; obtain ⟨⟨q1, m1, d1, rfl⟩, q2, m2, d2, rfl⟩ := hsh.form; have Hsh := Lib.hid hsh; clear hsh))
  refine bodyPost_ret (v := .tuple #[.agg #[.int .i64 s.kind, .slice q1 m1 d1, .slice q2 m2 d2], .int .i64 sys, .bool true]) (by simp [results, Tryz.results22, go_sem]) rfl ?_
  exact ⟨_, _, _, rfl, ext_of (show Kp w _ from (by repeat (first | (with_reducible exact Kp.refl _) | (with_reducible assumption) | (with_reducible apply Kp.ext) | (with_reducible apply Kp.alloc) | (with_reducible apply Kp.drew) | (with_reducible apply Kp.drewN) | (with_reducible refine Kp.setCell ?_ (by first | (dsimp only; omega) | (simp; omega) | (simp; done) | (simp [size_ext_eq]; omega)) _)))), ShB.mono (ShB.keep Hsh.out (Agree.re2 (by simp [size_ext_eq])) (Nat.le_of_eq (ext_same2 (by simp [size_ext_eq])))) (by simp [size_ext_eq]; first | done | omega) (Nat.le_of_eq (ext_same2 (by simp [size_ext_eq])))⟩
/-- impl.DecodeWith of the extended form of any shape -/
theorem decW_any (d : Nat) (s : Sh) (hok : cntOk (d + 1) s = true) (hsm : Small (d + 1) s) (hbits : BitsSh (d + 1) s) (sys : Nat) (hsys : sys ≤ 999999) (big turns : Bool) (g off n c : Nat) (hnl : n = (formSh (d + 1) s sys big turns).length) (hnc : n ≤ c) (hm : n ≤ 1000000000000) (w : World) (hg : g < w.heap.size) (hb : BytesAt w g off (formSh (d + 1) s sys big turns)) (hG : Gls w) :
    Calls Tryz.prog 22 #[.slice (some ⟨g, off, none⟩) n c] w (RetDW (d + 1) s (sys : Int) w) :=
  decodeWith_c (d + 1) s sys _ w (fun w' hk => ewkbUn_c sys _ w' _ (unW_c d s hok hsm hbits sys hsys big turns g off n c hnl hnc hm w' (Nat.lt_of_lt_of_le hg hk.size) (hb.kp hg hk) (hG.kp hk)))
    (fun lo hi v w' hg => shapeOf_c (d + 1) s lo hi v w' hg hok hsm)
end Go.Proofs.YtnmokjgiilfdlaaGreatDoor
